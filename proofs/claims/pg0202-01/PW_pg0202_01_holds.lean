import PyProof.Rows.All
import Wide.All
import OpenK.AllK
import Wide.FinOn
import PyProof.WalksPairs
import KE.KCallOwn
import KE.KDictIter
import KE.KLam
import KE.KNestM
import Lean
import PySem.Challenge.RW_pg0202_01
set_option maxRecDepth 100000
set_option Elab.async false
set_option linter.unusedVariables false
section
open PySem PySem.W PyProof.Rows
namespace Mine

noncomputable abbrev p0 : Program := PySem.Challenge.pw_pg0202_01
noncomputable def viewQ : Program := { PySem.Challenge.pw_pg0202_01 with main := { PySem.Challenge.pw_pg0202_01.main with body := match PySem.Challenge.pw_pg0202_01.main.body with
  | [a0, _, a2, a3, a4, a5, a6, _, a8, a9, a10, a11, a12, a13, _, a15, a16, a17, a18, a19, a20, a21, a22] => [a0, a2, a3, a4, a5, a6, a8, a9, a10, a11, a12, a13, a15, a16, a17, a18, a19, a20, a21, a22]
  | _ => [] } }
noncomputable def openG (iE : (String → Option Builtin) → Program → World → Nat → Shared → Thread → Option Shared) (st : Program → Shared × Thread) (fm : Program → Shared → Option Shared) (tR : (String → Option Builtin) → Program → World → Nat → Option Value → Nat → Shared → Thread → Option Shared) (im : List Stmt → List Str) (nm : Heap → Addr → Str → Option Value) (tb : String → Option Builtin) (p : Program) (w : World) (N : Nat) : Option Shared :=
  ((iE tb (opening p) w N (st (opening p)).1 (st (opening p)).2).bind (fm p)).bind fun s₀ => match s₀.heap.isNs mainGlobals && s₀.gens.size == 0 with
  | true => (tR tb p w s₀.heap.objs.size (nm s₀.heap mainGlobals "__annotations__") N s₀ (topStub p)).bind fun s₁ => match staticsOk (im p.main.body) s₀.heap s₁.heap && namesBound p s₁.heap && gensDone s₁ && laidKept s₀.heap s₁.heap with
      | true => some s₁
      | false => none
  | false => none
theorem openG_eq (p : Program) (w : World) (N : Nat) : openEnds treeTable p w N = openG Fast.tw10274390034422433532 Fast.tw1435165496053646825 Fast.tw14289696077712309145 Fast.tw14082659384304107361 Fast.tw5923862056798008813 Fast.tw8920871248978507458 Fast.tw14364793385576792824 p w N := by
  rw [← Fast.te10274390034422433532, ← Fast.te1435165496053646825, ← Fast.te14289696077712309145, ← Fast.te14082659384304107361, ← Fast.te5923862056798008813, ← Fast.te8920871248978507458, ← Fast.te14364793385576792824]
  rfl
noncomputable abbrev topRunW (w : World) : Option Shared := openG Fast.tw10274390034422433532 Fast.tw1435165496053646825 Fast.tw14289696077712309145 Fast.tw14082659384304107361 Fast.tw5923862056798008813 Fast.tw8920871248978507458 Fast.tw14364793385576792824 p0 w 3168
noncomputable abbrev loose0 : List Str := [Str.ofString "_twin_re_1", Str.ofString "_Accumulator"]
noncomputable abbrev seenX (s : Shared) : Bool := xlAt viewQ [] s && recOk (RowW.records (OpenRow.toRowW PySem.Challenge.rw_pg0202_01.row)) s
theorem headA (w : World) : (topRunW w).map (fun s => openSeen viewQ loose0 (importedModules p0.main.body) seenX true s) = some (openGood viewQ loose0) := by
  rw [Fast.te4187177175401517315]
  kernel_rfl
theorem pair_of {α β γ : Type} {o : Option α} {f : α → β} {g : α → γ} {a : β} {b : γ} (h1 : o.map f = some a) (h2 : o.map g = some b) : (o.map fun s => (f s, g s)) = some (a, b) := by
  cases o with
  | none => cases h1
  | some s =>
    have e1 : f s = a := Option.some.inj h1
    have e2 : g s = b := Option.some.inj h2
    show some (f s, g s) = _
    rw [e1, e2]
theorem said0 : PySem.Challenge.rw_pg0202_01.wellSaid = true := by kernel_rfl
section
local macro_rules | `(tactic| k_head) => `(tactic| x_head)
local macro_rules | `(tactic| o_law) => `(tactic| refine holds_law said0 fun said => ?_)
local macro_rules | `(tactic| o_head $H) => `(tactic| (
  refine holds_open (q := viewQ) (loose := loose0) (Xt := seenX) (XP := XL viewQ []) (Yf := Hook.obs $H) (Ya := Hook.val $H) (YP := Hook.says $H) (N := 3168) ?hl (Hook.of $H) (Hook.keeps $H) (fun s e => xl_of s (Bool.and_eq_true_iff.mp e).1) XL.keeps (by rfl) (by rfl) (by rfl) (fun s e => recFacts_of (Bool.and_eq_true_iff.mp e).2) (by rfl) (by first | assumption | decide +kernel) (by decide +kernel) ⟨rfl, rfl, rfl, rfl, rfl, by decide +kernel⟩ ?hw ?hc
  case hl => (intro w; refine (congrArg _ (openG_eq _ w 3168)).trans (pair_of (headA w) (by kernel_rfl)))))
set_option maxHeartbeats 8000000 in
open_top hd for PySem.Challenge.rw_pg0202_01
end
end Mine
end
namespace Mine
open PySem PySem.W PySem.W.X PyProof.Rows
open Sem (wp)
noncomputable section

theorem hideG {X : Prop} (h : ∀ G : Prop, (X → G) → G) : X := h X id
section
variable {prog : Program} {w : World} {A : Around} {c : Code} {fs : List Frame} {s : Shared} {P : End → Shared → Prop} {env : Env}

theorem segx_wrap {α : Type} {m : Sem α} {K : α → Sem Fin} {H : Value → Sem Fin} {gd : Bool → Bool} {lv : List Value → List Value}
    (h : wpAny (model prog w) (A.over c fs) m (fun a s' => SegX (model prog w) A c (K a) fs s' P) (fun x s' => SegX (model prog w) A c (H x) fs s' P) s) :
    SegX (model prog w) A c (m.wrap K H gd lv) fs s P := by
  rintro Γ p rfl hΓ
  exact runs_wrap_of_wp (Φ := fun e s' => e.quiet = true ∧ P e s') K H gd lv m (h (Γ.over fs) p (hΓ.over fs)) (fun a p' s' h' => h' Γ p' rfl hΓ) (fun x p' s' h' => h' Γ p' rfl hΓ)

noncomputable def gK : Flow → Sem Fin := fun f => .pure (.done (.ret (match f with | .ret v => v | _ => .none)))
noncomputable def gH (env : Env) : Value → Sem Fin := fun e => (leaving env e).wrap (fun _ => .raise e) .raise id id

theorem segx_func {body : List Stmt} (h : SegX (model prog w) A (.func body env) ((execs body env).wrap gK (gH env) id id) fs s P) :
    SegX (model prog w) A (.func body env) ((model prog w).den (.func body env)) fs s P := by
  show SegX _ A _ (.point [] fun _ => ((execs body env).onRaise (leaving env)) >>= _) fs s P
  refine segx_wrap (m := point) (K := fun _ => ((execs body env).onRaise (leaving env)) >>= _) (H := .raise) (gd := id) (lv := fun _ => []) (wpAny_point ?_)
  rw [Sem.onRaise_eq_wrap, Sem.bind_eq_wrap', Sem.wrap_wrap]
  rw [Sem.wrap_congr (execs body env) _ _ (K' := gK) (H' := gH env) (fun f => by cases f <;> rfl)
    (fun e => by rw [Sem.bind_eq_wrap, Sem.wrap_wrap]; rfl)]
  exact h

noncomputable def yK (e : Expr) (ypos pos : Pos) (K : Flow → Sem Fin) (H : Value → Sem Fin) : Resume → Sem Fin := fun r =>
  (match r with | .send x => (Pure.pure x : Sem Value) | .throw e => raiseThrown e).wrap (fun x => (dropValue (.Yield (some e) ypos) pos x).wrap K H id id) H id id

theorem segx_yield {e : Expr} {ypos pos : Pos} {K : Flow → Sem Fin} {H : Value → Sem Fin} (hfs : splitAtGen fs = none) (hfg : fs.any Frame.guarded = false)
    (h : wpAny (model prog w) (A.over c fs) (eval e env) (fun v s' => ∀ p, P (.susp v false [] (yK e ypos pos K H) c p fs) s')
      (fun x s' => SegX (model prog w) A c (H x) fs s' P) s) (hco : env.scope.isCoroutine = false) (hi : interactive env = false) :
    SegX (model prog w) A c ((exec (.Expr (.Yield (some e) ypos) pos) env).wrap K H id id) fs s P := by
  rw [exec_Expr env _ pos hi rfl]
  show SegX _ A c (.at pos fun _ => ((eval e env >>= fun v => (standAt ypos >>= fun _ => yieldOut env v)) >>= fun x =>
    dropValue (.Yield (some e) ypos) pos x).wrap K H id id) fs s P
  have hy : ∀ v, yieldOut env v = yieldValue v := fun v => by simp only [yieldOut, hco, Bool.false_eq_true, if_false]
  simp only [hy]
  refine segx_wrap (m := standAt pos) (K := fun _ => _) (H := .raise) (gd := id) (lv := id) (wpAny_standAt ?_)
  rw [Sem.bind_eq_wrap', Sem.bind_eq_wrap', Sem.wrap_wrap, Sem.wrap_wrap]
  refine segx_wrap (wpAny_mono h (fun v s' h' => ?_) fun _ _ x => x)
  refine segx_wrap (m := standAt ypos) (K := fun _ => _) (H := .raise) (gd := id) (lv := id) (wpAny_standAt ?_)
  exact s_yield prog w A c fs P s' v [] _ hfs hfg h'

theorem segx_cons {st : Stmt} {rest : List Stmt} {K : Flow → Sem Fin} {H : Value → Sem Fin}
    (h : SegX (model prog w) A c ((exec st env).wrap (fun f => match f with | .next => (execs rest env).wrap K H id id | f => K f) H id id) fs s P) :
    SegX (model prog w) A c ((execs (st :: rest) env).wrap K H id id) fs s P := by rw [execs_cons_wrap]; exact h

noncomputable def cK (rest : List Stmt) (env : Env) (K : Flow → Sem Fin) (H : Value → Sem Fin) : Flow → Sem Fin := fun f => match f with | .next => (execs rest env).wrap K H id id | f => K f

theorem segx_wake {e : Expr} {ypos pos : Pos} {K : Flow → Sem Fin} {H : Value → Sem Fin} (h : SegX (model prog w) A c (K .next) fs s P) :
    SegX (model prog w) A c (yK e ypos pos K H (.send .none)) fs s P := h

noncomputable def wK (env : Env) (K : Flow → Sem Fin) (H : Value → Sem Fin) : Result → Sem Fin := fun r =>
  ((match r with | .ok f => (.pure f : Sem Flow) | .error e => .raise e).onRaise fun (x : Value) => do
        if (← field x 1) == Value.none then unsupported "frame.own-activation:exception-without-traceback"
        setFlight x env.frame).wrap K H id id

theorem segx_While {test : Expr} {body orelse : List Stmt} {pos : Pos} {K : Flow → Sem Fin} {H : Value → Sem Fin}
    (h : ∀ p, SegX (model prog w) A (.whileLoop test body orelse env) ((model prog w).den (.whileLoop test body orelse env))
      (.ret (wK env K H) none false [] c p [] :: fs) s P) :
    SegX (model prog w) A c ((exec (.While test body orelse pos) env).wrap K H id id) fs s P := by
  refine segx_wrap (m := standAt pos) (K := fun _ => _) (H := .raise) (gd := id) (lv := id) (wpAny_standAt ?_)
  exact s_call prog w A c fs P s _ none false [] _ h

noncomputable def lK (test : Expr) (body orelse : List Stmt) (env : Env) : Flow → Sem Fin := fun f => match f with
  | .next | .cont => .pure (.again (.whileLoop test body orelse env))
  | .brk => .pure (.done .next)
  | .ret v => .pure (.done (.ret v))
noncomputable def lH (env : Env) : Value → Sem Fin := fun e => (do noteFrame e env; theTreesLotGoes e : Sem Unit).wrap (fun _ => .raise e) .raise id id

theorem segx_loop {test : Expr} {body orelse : List Stmt}
    (h : wpAny (model prog w) (A.over (.whileLoop test body orelse env) fs) (isTrue test env (eval test env)) (fun b s' => b = true ∧
          SegX (model prog w) A (.whileLoop test body orelse env) ((execs body env).wrap (lK test body orelse env) (lH env) id id) fs s' P) (fun _ _ => False) s) :
    SegX (model prog w) A (.whileLoop test body orelse env) ((model prog w).den (.whileLoop test body orelse env)) fs s P := by
  show SegX _ A _ ((whileTurn test body orelse env).onRaise (fun x => do noteFrame x env; theTreesLotGoes x)) fs s P
  unfold whileTurn
  rw [Sem.onRaise_eq_wrap, Sem.bind_eq_wrap', Sem.wrap_wrap]
  refine segx_wrap (wpAny_mono h (fun b s' hb => ?_) fun x s' hx => hx.elim)
  obtain ⟨rfl, hb⟩ := hb
  show SegX _ A _ (Sem.wrap _ _ _ _ (if true = true then _ else _)) fs s' P
  rw [if_pos rfl, Sem.bind_eq_wrap', Sem.wrap_wrap]
  rw [Sem.wrap_congr (execs body env) _ _ (K' := lK test body orelse env) (H' := lH env)
    (fun f => by cases f <;> rfl)
    (fun e => by first | exact Sem.bind_eq_wrap _ _ | (show (do noteFrame e env; theTreesLotGoes e : Sem Unit).bind (fun _ => .raise e) = _; rw [Sem.bind_eq_wrap]; rfl))]
  exact hb
theorem segx_again {c' : Code} (hq : c'.quiet = true) (x : SegX (model prog w) A c' ((model prog w).den c') fs s P) : SegX (model prog w) A c (.pure (.again c')) fs s P :=
  s_again prog w A c fs P s c' hq x
end
end
end Mine
namespace Mine
open PySem PySem.W PyProof.Rows
noncomputable section

noncomputable abbrev PW : Program := PySem.Challenge.pw_pg0202_01
noncomputable abbrev MD (w : World) : Model := model PW w
noncomputable abbrev Kx : Params → Frag := Mine.hd.heap_1

inductive AV where
  | none
  | bool (b : Bool)
  | int (i : Int)
  | str (x : Str)
  | tupI (l : List Int)
  | tupS (l : List Str)
  | stat (v : Value)
  | obj (id : Nat)

inductive AC where
  | intL (l : List Int)
  | strL (l : List (Option Str))
  | acc (l : List (Str × Str)) (init : Int)
  | fm (maxlen : Int) (ws : Str) (lines acc : Nat)
  | coder
  | gen (fm : Nat) (started : Bool)
  | run (o : Obj) (g : Nat)
  | fix (o : Obj)

noncomputable abbrev Locs := List (Str × AV)

noncomputable def setL (x : Str) (v : AV) : Locs → Locs
  | [] => [(x, v)]
  | (y, u) :: r => if y = x then (x, v) :: r else (y, u) :: setL x v r

theorem lookup_setL (x y : Str) (v : AV) (l : Locs) : (setL x v l).lookup y = if y = x then some v else l.lookup y := by
  induction l with
  | nil =>
    simp only [setL, List.lookup_cons, List.lookup_nil]
    by_cases h : y = x
    · simp [h]
    · have q : (y == x) = false := by simpa using h
      simp [h, q]
  | cons p r ih =>
    obtain ⟨z, u⟩ := p
    simp only [setL]
    by_cases hz : z = x
    · subst hz
      simp only [if_true, List.lookup_cons]
      by_cases h : y = z
      · simp [h]
      · have q : (y == z) = false := by simpa using h
        simp [h, q]
    · simp only [hz, if_false, List.lookup_cons, ih]
      by_cases h : y = z
      · subst h; simp [hz]
      · have : (y == z) = false := by simpa using h
        simp [this]

inductive All2 {α β : Type} (R : α → β → Prop) : List α → List β → Prop
  | nil : All2 R [] []
  | cons {a b l m} : R a b → All2 R l m → All2 R (a :: l) (b :: m)
theorem All2.mono {α β : Type} {R S : α → β → Prop} (h : ∀ a b, R a b → S a b) {l : List α} {m : List β} (x : All2 R l m) : All2 S l m := by
  induction x with
  | nil => exact .nil
  | cons a _ ih => exact .cons (h _ _ a) ih
theorem All2.length {α β : Type} {R : α → β → Prop} {l : List α} {m : List β} (x : All2 R l m) : l.length = m.length := by
  induction x with
  | nil => rfl
  | cons _ _ ih => simp [ih]
theorem All2.get {α β : Type} {R : α → β → Prop} {l : List α} {m : List β} (x : All2 R l m) : ∀ {i : Nat} {a : α}, l[i]? = some a → ∃ b, m[i]? = some b ∧ R a b := by
  induction x with
  | nil => intro i a h; simp at h
  | cons h _ ih =>
    intro i a e
    cases i with
    | zero => simp at e; subst e; exact ⟨_, rfl, h⟩
    | succ i => simp at e; exact ih (by simpa using e)

inductive OStrsAre : List Value → List (Option Str) → Prop
  | nil : OStrsAre [] []
  | some (x : Str) (t : Tok) {vs l} : OStrsAre vs l → OStrsAre (.str x t :: vs) (some x :: l)
  | none {vs l} : OStrsAre vs l → OStrsAre (.none :: vs) (none :: l)

noncomputable def tabs : List Addr := [248, 155, 162]

structure Bs (w : World) where
  h : Heap
  os : OsState
  mg : Str → Option Value
  mb : Str → Option Value
  K : (Kx w.params).In h
  ng : h.Ns mainGlobals mg
  nb : h.Ns builtinsNs mb
  hb : ∀ x : Str, x ≠ "__name__" → mb x = bootBuiltins x
  lim : h.NoLimit

noncomputable def VRep (ρ : List (List Addr)) (h : Heap) : AV → Value → Prop
  | .none, v => v = .none
  | .bool b, v => v = .bool b
  | .int i, v => ∃ t, v = .int i t
  | .str x, v => ∃ t, v = .str x t
  | .tupI l, v => ∃ a vs, v = .ref a ∧ IsTup h a vs.toArray ∧ IntsAre vs l
  | .tupS l, v => ∃ a vs, v = .ref a ∧ IsTup h a vs.toArray ∧ StrsAre vs l
  | .stat u, v => v = u
  | .obj i, v => ∃ a r, ρ[i]? = some (a :: r) ∧ v = .ref a

noncomputable def TK (h h' : Heap) : Prop := ∀ a vs, IsTup h a vs → IsTup h' a vs
theorem TK.refl (h : Heap) : TK h h := fun _ _ x => x
theorem TK.trans {h h' h'' : Heap} (x : TK h h') (y : TK h' h'') : TK h h'' := fun a vs z => y a vs (x a vs z)
theorem TK.of_keeps {h h' : Heap} (k : ∀ b o, h.get? b = some o → h'.get? b = some o) : TK h h' := fun _ _ x => x.keeps k
theorem TK.of_extBut {h h' : Heap} {b : Addr} {o : Obj} (k : Heap.ExtBut b h h') (ho : h.get? b = some o) (hc : o.cls ≠ .type "tuple") : TK h h' := fun a vs x => by
  refine x.extBut k ?_
  rintro rfl
  obtain ⟨o', ho', hc', _⟩ := x
  rw [ho] at ho'
  cases ho'
  exact hc hc'

theorem prefix_get {α : Type} {l l' : List α} (h : l <+: l') {i : Nat} {a : α} (e : l[i]? = some a) : l'[i]? = some a := by
  obtain ⟨t, rfl⟩ := h
  rw [List.getElem?_append_left (List.getElem?_eq_some_iff.mp e).1]; exact e

theorem VRep.mono {ρ ρ' : List (List Addr)} {h h' : Heap} {a : AV} {v : Value} (x : VRep ρ h a v) (hp : ρ <+: ρ') (hk : TK h h') : VRep ρ' h' a v := by
  cases a <;> simp only [VRep] at x ⊢
  · exact x
  · exact x
  · exact x
  · exact x
  · obtain ⟨a, vs, e, t, i⟩ := x; exact ⟨a, vs, e, hk _ _ t, i⟩
  · obtain ⟨a, vs, e, t, i⟩ := x; exact ⟨a, vs, e, hk _ _ t, i⟩
  · exact x
  · obtain ⟨a, r, e, q⟩ := x; exact ⟨a, r, prefix_get hp e, q⟩

inductive PairsAre (h : Heap) : List Value → List (Str × Str) → Prop
  | nil : PairsAre h [] []
  | cons {a : Addr} {x y : Str} {t u : Tok} {vs l} : IsTup h a #[.str x t, .str y u] → PairsAre h vs l → PairsAre h (.ref a :: vs) ((x, y) :: l)
theorem PairsAre.mono {h h' : Heap} {vs : List Value} {l : List (Str × Str)} (x : PairsAre h vs l) (hk : TK h h') : PairsAre h' vs l := by
  induction x with
  | nil => exact .nil
  | cons t _ ih => exact .cons (hk _ _ t) ih

noncomputable def FrameAt (ρ : List (List Addr)) (h : Heap) (L : Addr) (loc : Locs) : Prop :=
  ∃ m, h.Ns L m ∧ ∀ x v, loc.lookup x = some v → ∃ v', m x = some v' ∧ VRep ρ h v v'
theorem FrameAt.mono {ρ ρ' : List (List Addr)} {h h' : Heap} {L : Addr} {loc : Locs} (x : FrameAt ρ h L loc) (hp : ρ <+: ρ') (hk : TK h h') (hn : ∀ m, h.Ns L m → h'.Ns L m) : FrameAt ρ' h' L loc := by
  obtain ⟨m, n, k⟩ := x
  exact ⟨m, hn _ n, fun y v e => let ⟨v', a, b⟩ := k y v e; ⟨v', a, b.mono hp hk⟩⟩


noncomputable def fdOf (P : Params) (a : Addr) : FuncData := match (Kx P).lookup a with
  | some ⟨_, _, .func fd, _⟩ => fd
  | _ => default
noncomputable def fbody (fd : FuncData) : List Stmt := match fd.body with
  | .stmts b => b
  | _ => []

noncomputable def GenS1 (env : Env) (body : List Stmt) (gs : GenState) : Prop := ∃ e1 y1 p1 rest l p, body = .Expr (.Yield (some e1) y1) p1 :: rest ∧
  gs = .suspended (yK e1 y1 p1 (cK rest env gK (gH env)) (gH env)) l (.func body env) p [] false
noncomputable def GenS2 (env : Env) (body : List Stmt) (gs : GenState) : Prop := ∃ st1 t e2 y2 p2 pw l p p0, body = [st1, .While t [.Expr (.Yield (some e2) y2) p2] [] pw] ∧
  gs = .suspended (yK e2 y2 p2 (cK [] env (lK t [.Expr (.Yield (some e2) y2) p2] [] env) (lH env)) (lH env)) l (.whileLoop t [.Expr (.Yield (some e2) y2) p2] [] env) p
    [.ret (wK env (cK [] env gK (gH env)) (gH env)) none false [] (.func body env) p0 []] false
noncomputable def GenSt (env : Env) (body : List Stmt) : Bool → GenState → Prop
  | false, gs => gs = .fresh (.func body env)
  | true, gs => GenS1 env body gs ∨ GenS2 env body gs

noncomputable def DictIs (P : Params) (h : Heap) (d : Addr) (kv : List (Str × Value)) : Prop :=
  ∃ es n, h.get? d = some { cls := .type "dict", data := .dict (List.toArray es) n } ∧ All2 (fun (e : DictEntry) (p : Str × Value) => ∃ t, e = ⟨PyData.keyHash P p.1, .str p.1 t, p.2⟩) es kv

noncomputable def CellAt (P : Params) (ρ : List (List Addr)) (s : Shared) : AC → List Addr → Prop
  | .intL l, as => ∃ a vs, as = [a] ∧ s.heap.PlainList a vs.toArray ∧ IntsAre vs l
  | .strL l, as => ∃ a vs, as = [a] ∧ s.heap.PlainList a vs.toArray ∧ OStrsAre vs l
  | .acc l i, as => ∃ a d vs n t, as = [a, d] ∧ s.heap.get? a = some ⟨.ref 193, some d, .seq (List.toArray vs) n, #[]⟩ ∧ DictIs P s.heap d [("_initial_size", .int i t)] ∧ PairsAre s.heap vs l
  | .fm ml ws li ai, as => ∃ a d t1 t2 t3 vsp la lr aa ar, as = [a, d] ∧ s.heap.get? a = some ⟨.ref 109, some d, .plain, #[]⟩ ∧ ρ[li]? = some (la :: lr) ∧ ρ[ai]? = some (aa :: ar) ∧
      DictIs P s.heap d [("_maxlen", .int ml t1), ("_continuation_ws", .str ws t2), ("_continuation_ws_len", .int ws.length t3), ("_splitchars", vsp), ("_lines", .ref la), ("_current_line", .ref aa)]
  | .coder, as => ∃ a d fd t, as = [a, d] ∧ s.heap.get? a = some ⟨.type "function", some d, .func fd, #[]⟩ ∧ DictIs P s.heap d [("header_encoding", .int 1 t), ("header_encode_lines", .ref 246)]
  | .gen f b, as => ∃ a L g fa fr m gs, as = [a, L] ∧ s.heap.IsGen a g ∧ ρ[f]? = some (fa :: fr) ∧ s.heap.Ns L m ∧ m "self" = some (.ref fa) ∧ s.gens[g]? = some gs ∧
      GenSt (callEnv (fdOf P 92) L 92) (fbody (fdOf P 92)) b gs
  | .run o g, as => ∃ a, as = [a] ∧ s.heap.get? a = some o ∧ o.cls ≠ .type "tuple" ∧ s.gens[g]? = some .running
  | .fix o, as => ∃ a, as = [a] ∧ s.heap.get? a = some o

structure Stat {w : World} (B : Bs w) (s : Shared) : Prop where
  keep : ∀ b o, B.h.get? b = some o → b ∉ tabs → s.heap.get? b = some o
  tab : ∀ b ∈ tabs, ∃ vs, s.heap.get? b = some { cls := .none, data := .fields vs } ∧ TriplesOk vs.toList
  bare : AllBare s.gens
  os : s.os = B.os

structure Cx (w : World) where
  B : Bs w
  A : Around
  fd : FuncData
  a : Addr
  L : Addr
  fs : List (Addr × Locs)
  fz : List (Addr × Obj)
  outer : List Env

noncomputable def Cx.env {w : World} (c : Cx w) : Env := callEnv c.fd c.L c.a
noncomputable def Cx.own {w : World} (c : Cx w) : List Addr := c.fs.map (·.1) ++ c.fz.map (·.1)

structure Cx.OK {w : World} (c : Cx w) (k : Nat) (sc : Scope) : Prop where
  hsc : c.fd.scope = sc
  kind : sc.kind = .function
  glob : c.fd.globals = mainGlobals
  blt : c.fd.builtins = builtinsNs
  hd : c.A.handled = none
  fr : c.A.frames = some (c.env :: c.outer)
  depth : c.A.depth + k ≤ 800
  units : c.A.units + 20 * k ≤ 9000
  out : ∀ e ∈ c.outer, e.scope.kind = .function ∧ ∃ p ∈ c.fs, e.frame = some p.1

structure Rep {w : World} (c : Cx w) (ρ : List (List Addr)) (loc : Locs) (cs : List AC) (s : Shared) : Prop where
  stat : Stat c.B s
  fr : FrameAt ρ s.heap c.L loc
  frs : ∀ p ∈ c.fs, FrameAt ρ s.heap p.1 p.2
  frz : ∀ p ∈ c.fz, s.heap.get? p.1 = some p.2
  len : ρ.length = cs.length
  cells : ∀ (i : Nat) (ac : AC) (as : List Addr), cs[i]? = some ac → ρ[i]? = some as → CellAt w.params ρ s ac as
  apart : (c.L :: (c.own ++ ρ.flatten)).Nodup
  fresh : ∀ a ∈ c.L :: (c.own ++ ρ.flatten), c.B.h.get? a = none ∧ a ∉ tabs

structure Post {w : World} (c : Cx w) (ρ : List (List Addr)) (s : Shared) (loc : Locs) (cs : List AC) (s' : Shared) (ρ' : List (List Addr)) : Prop where
  pre : ρ <+: ρ'
  tk : TK s.heap s'.heap
  rep : Rep c ρ' loc cs s'

noncomputable def Ev (k : Nat) (sc : Scope) (loc : Locs) (cs : List AC) (e : Expr) (v : AV) (cs' : List AC) : Prop :=
  ∀ (w : World) (c : Cx w) ρ s, c.OK k sc → Rep c ρ loc cs s → wpAny (MD w) c.A (eval e c.env) (fun v' s' => ∃ ρ', Post c ρ s loc cs' s' ρ' ∧ VRep ρ' s'.heap v v') (fun _ _ => False) s

noncomputable def EvL (k : Nat) (sc : Scope) (loc : Locs) (cs : List AC) (es : List Expr) (vs : List AV) (cs' : List AC) : Prop :=
  ∀ (w : World) (c : Cx w) ρ s pos, c.OK k sc → Rep c ρ loc cs s → wpAny (MD w) c.A (spliced (backTo pos (starEach es c.env))) (fun vs' s' => ∃ ρ', Post c ρ s loc cs' s' ρ' ∧ All2 (VRep ρ' s'.heap) vs vs') (fun _ _ => False) s

noncomputable def Tst (k : Nat) (sc : Scope) (loc : Locs) (cs : List AC) (e : Expr) (b : Bool) (cs' : List AC) : Prop :=
  ∀ (w : World) (c : Cx w) ρ s, c.OK k sc → Rep c ρ loc cs s → wpAny (MD w) c.A (isTrue e c.env (eval e c.env)) (fun b' s' => b' = b ∧ ∃ ρ', Post c ρ s loc cs' s' ρ') (fun _ _ => False) s

inductive AF where
  | next
  | ret (v : AV)
noncomputable def FlRep (ρ : List (List Addr)) (h : Heap) : AF → Flow → Prop
  | .next, f => f = .next
  | .ret v, f => ∃ v', f = .ret v' ∧ VRep ρ h v v'

noncomputable def Ex (k : Nat) (sc : Scope) (loc : Locs) (cs : List AC) (st : Stmt) (f : AF) (loc' : Locs) (cs' : List AC) : Prop :=
  ∀ (w : World) (c : Cx w) ρ s, c.OK k sc → Rep c ρ loc cs s → wpAny (MD w) c.A (exec st c.env) (fun f' s' => ∃ ρ', Post c ρ s loc' cs' s' ρ' ∧ FlRep ρ' s'.heap f f') (fun _ _ => False) s
noncomputable def Exs (k : Nat) (sc : Scope) (loc : Locs) (cs : List AC) (sts : List Stmt) (f : AF) (loc' : Locs) (cs' : List AC) : Prop :=
  ∀ (w : World) (c : Cx w) ρ s, c.OK k sc → Rep c ρ loc cs s → wpAny (MD w) c.A (execs sts c.env) (fun f' s' => ∃ ρ', Post c ρ s loc' cs' s' ρ' ∧ FlRep ρ' s'.heap f f') (fun _ _ => False) s

noncomputable def Cl (k : Nat) (cs : List AC) (f : Value) (args : List AV) (v : AV) (cs' : List AC) : Prop :=
  ∀ (w : World) (c : Cx w) ρ loc s vs sc, c.OK k sc → Rep c ρ loc cs s → All2 (VRep ρ s.heap) args vs →
    wpAny (MD w) c.A (call f vs) (fun v' s' => ∃ ρ', Post c ρ s loc cs' s' ρ' ∧ VRep ρ' s'.heap v v') (fun _ _ => False) s
end
end Mine
namespace Mine
open PySem PySem.W PyProof.Rows
noncomputable section

theorem DictIs.at {P : Params} {h h' : Heap} {d : Addr} {kv : List (Str × Value)} (x : DictIs P h d kv) (hk : ∀ o, h.get? d = some o → h'.get? d = some o) : DictIs P h' d kv :=
  let ⟨es, n, e, r⟩ := x; ⟨es, n, hk _ e, r⟩

theorem CellAt.mono {P : Params} {ρ ρ' : List (List Addr)} {s s' : Shared} {ac : AC} {as : List Addr} (x : CellAt P ρ s ac as) (hp : ρ <+: ρ') (tk : TK s.heap s'.heap)
    (hk : ∀ a ∈ as, ∀ o, s.heap.get? a = some o → s'.heap.get? a = some o) (hg : ∀ (g : Nat) gs, s.gens[g]? = some gs → s'.gens[g]? = some gs) : CellAt P ρ' s' ac as := by
  cases ac with
  | intL l =>
    refine hideG fun Gq hGq => ?_
    obtain ⟨a, vs, rfl, x, y⟩ := x
    refine hGq ?_
    clear hGq Gq
    exact ⟨a, vs, rfl, x.at (hk a (by simp)), y⟩
  | strL l =>
    refine hideG fun Gq hGq => ?_
    obtain ⟨a, vs, rfl, x, y⟩ := x
    refine hGq ?_
    clear hGq Gq
    exact ⟨a, vs, rfl, x.at (hk a (by simp)), y⟩
  | acc l i =>
    refine hideG fun Gq hGq => ?_
    obtain ⟨a, d, vs, n, t, rfl, x, y, z⟩ := x
    refine hGq ?_
    clear hGq Gq
    exact ⟨a, d, vs, n, t, rfl, hk a (by simp) _ x, y.at (hk d (by simp)), z.mono tk⟩
  | fm ml ws li ai =>
    refine hideG fun Gq hGq => ?_
    obtain ⟨a, d, t1, t2, t3, vsp, la, lr, aa, ar, rfl, x, y, z, u⟩ := x
    refine hGq ?_
    clear hGq Gq
    exact ⟨a, d, t1, t2, t3, vsp, la, lr, aa, ar, rfl, hk a (by simp) _ x, prefix_get hp y, prefix_get hp z, u.at (hk d (by simp))⟩
  | coder =>
    refine hideG fun Gq hGq => ?_
    obtain ⟨a, d, fd, t, rfl, x, y⟩ := x
    refine hGq ?_
    clear hGq Gq
    exact ⟨a, d, fd, t, rfl, hk a (by simp) _ x, y.at (hk d (by simp))⟩
  | gen f b =>
    refine hideG fun Gq hGq => ?_
    obtain ⟨a, L, g, fa, fr, m, gs, rfl, x, y, z, u, v, r⟩ := x
    refine hGq ?_
    clear hGq Gq
    refine ⟨a, L, g, fa, fr, m, gs, rfl, ?_, prefix_get hp y, ?_, u, hg _ _ v, r⟩
    · obtain ⟨o, nm, qn, ho, r⟩ := x; exact ⟨o, nm, qn, hk a (by simp) _ ho, r⟩
    · exact z.at' (hk L (by simp))
  | run o g =>
    refine hideG fun Gq hGq => ?_
    obtain ⟨a, rfl, x, nt, y⟩ := x
    refine hGq ?_
    clear hGq Gq
    exact ⟨a, rfl, hk a (by simp) _ x, nt, hg _ _ y⟩
  | fix o =>
    obtain ⟨a, rfl, x⟩ := x
    exact ⟨a, rfl, hk a (by simp) _ x⟩

theorem getElem?_mem_flatten {ρ : List (List Addr)} {i : Nat} {as : List Addr} (h : ρ[i]? = some as) {b : Addr} (hb : b ∈ as) : b ∈ ρ.flatten :=
  List.mem_flatten.mpr ⟨as, List.mem_of_getElem? h, hb⟩

theorem flatten_apart {ρ : List (List Addr)} (hn : ρ.flatten.Nodup) {i j : Nat} {as bs : List Addr} (hi : ρ[i]? = some as) (hj : ρ[j]? = some bs) (ij : i ≠ j) {b : Addr} (ha : b ∈ as) : b ∉ bs := by
  induction ρ generalizing i j with
  | nil => simp at hi
  | cons x r ih =>
    rw [List.flatten_cons, List.nodup_append] at hn
    obtain ⟨_, h2, h3⟩ := hn
    cases i with
    | zero =>
      cases j with
      | zero => exact absurd rfl ij
      | succ j =>
        simp at hi hj; subst hi
        intro hb
        exact h3 _ ha _ (List.mem_flatten.mpr ⟨bs, List.mem_of_getElem? hj, hb⟩) rfl
    | succ i =>
      cases j with
      | zero =>
        simp at hi hj; subst hj
        intro hb
        exact h3 _ hb _ (List.mem_flatten.mpr ⟨as, List.mem_of_getElem? hi, ha⟩) rfl
      | succ j => exact ih h2 (by simpa using hi) (by simpa using hj) (fun e => ij (by rw [e]))

section
variable {w : World} {c : Cx w} {ρ : List (List Addr)} {loc : Locs} {cs : List AC} {s s' : Shared}

theorem Rep.nodupL (R : Rep c ρ loc cs s) : (c.L ∉ c.fs.map (·.1) ∧ c.L ∉ c.fz.map (·.1)) ∧ c.L ∉ ρ.flatten ∧ ρ.flatten.Nodup ∧ (∀ p ∈ c.fs, p.1 ∉ ρ.flatten) ∧ (∀ p ∈ c.fz, p.1 ∉ ρ.flatten) := by
  have h := R.apart
  rw [List.nodup_cons, List.nodup_append] at h
  refine hideG fun Gq hGq => ?_
  obtain ⟨h1, _, h3, h4⟩ := h
  refine hGq ?_
  clear hGq Gq
  exact ⟨⟨fun q => h1 (List.mem_append_left _ (List.mem_append_left _ q)), fun q => h1 (List.mem_append_left _ (List.mem_append_right _ q))⟩, fun q => h1 (List.mem_append_right _ q), h3, fun p hp hq => h4 _ (List.mem_append_left _ (List.mem_map_of_mem hp)) _ hq rfl,
    fun p hp hq => h4 _ (List.mem_append_right _ (List.mem_map_of_mem hp)) _ hq rfl⟩

theorem Rep.Lget (R : Rep c ρ loc cs s) : ∃ o es ep, s.heap.get? c.L = some o ∧ o.data = .dict es ep := by
  refine hideG fun Gq hGq => ?_
  obtain ⟨m, ⟨o, es, ep, ho, hd, _⟩, _⟩ := R.fr
  refine hGq ?_
  clear hGq Gq
  exact ⟨o, es, ep, ho, hd⟩

theorem Rep.ext (R : Rep c ρ loc cs s) (hk : ∀ b o, s.heap.get? b = some o → s'.heap.get? b = some o) (hg : ∀ (g : Nat) gs, s.gens[g]? = some gs → s'.gens[g]? = some gs)
    (hb : AllBare s'.gens) (ho : s'.os = s.os) : Rep c ρ loc cs s' where
  stat := ⟨fun b o e n => hk _ _ (R.stat.keep b o e n), fun b hb => let ⟨vs, e, te⟩ := R.stat.tab b hb; ⟨vs, hk _ _ e, te⟩, hb, ho.trans R.stat.os⟩
  fr := R.fr.mono (List.prefix_refl _) (TK.of_keeps hk) fun _ n => n.keeps hk
  frs := fun p hp => (R.frs p hp).mono (List.prefix_refl _) (TK.of_keeps hk) fun _ n => n.keeps hk
  frz := fun p hp => hk _ _ (R.frz p hp)
  len := R.len
  cells := fun i ac as hi ha => (R.cells i ac as hi ha).mono (List.prefix_refl _) (TK.of_keeps hk) (fun a _ o e => hk a o e) hg
  apart := R.apart
  fresh := R.fresh
theorem Rep.heap (R : Rep c ρ loc cs s) {h' : Heap} {tk : Tok} (hk : ∀ b o, s.heap.get? b = some o → h'.get? b = some o) : Rep c ρ loc cs { s with heap := h', toks := tk } :=
  R.ext (s' := { s with heap := h', toks := tk }) hk (fun _ _ e => e) R.stat.bare rfl
theorem Rep.tok (R : Rep c ρ loc cs s) (tk : Tok) : Rep c ρ loc cs { s with toks := tk } := R.ext (s' := { s with toks := tk }) (fun _ _ e => e) (fun _ _ e => e) R.stat.bare rfl

theorem Post.refl (R : Rep c ρ loc cs s) : Post c ρ s loc cs s ρ := ⟨List.prefix_refl _, TK.refl _, R⟩
theorem Post.trans {loc1 loc2 : Locs} {cs1 cs2 : List AC} {s1 s2 : Shared} {ρ1 ρ2 : List (List Addr)} (x : Post c ρ s loc1 cs1 s1 ρ1) (y : Post c ρ1 s1 loc2 cs2 s2 ρ2) : Post c ρ s loc2 cs2 s2 ρ2 :=
  ⟨x.pre.trans y.pre, x.tk.trans y.tk, y.rep⟩
theorem Post.heap (R : Rep c ρ loc cs s) {h' : Heap} {tk : Tok} (hk : ∀ b o, s.heap.get? b = some o → h'.get? b = some o) : Post c ρ s loc cs { s with heap := h', toks := tk } ρ :=
  ⟨List.prefix_refl _, TK.of_keeps hk, R.heap hk⟩
theorem Post.tok (R : Rep c ρ loc cs s) (tk : Tok) : Post c ρ s loc cs { s with toks := tk } ρ := ⟨List.prefix_refl _, TK.refl _, R.tok tk⟩

theorem dict_not_tuple {o : Obj} {es ep} (hd : o.data = .dict es ep) {h : Heap} {a : Addr} (ho : h.get? a = some o) {h' : Heap} (hx : Heap.ExtBut a h h') : TK h h' := fun b vs x => by
  refine x.extBut hx ?_
  rintro rfl
  refine hideG fun Gq hGq => ?_
  obtain ⟨o', ho', _, n, hd'⟩ := x
  refine hGq ?_
  clear hGq Gq
  rw [ho] at ho'; cases ho'
  rw [hd] at hd'; cases hd'

theorem Rep.setLoc (R : Rep c ρ loc cs s) {m : Str → Option Value} {h' : Heap} {x : Str} {v : AV} {v' : Value} {tk : Tok} (hm : s.heap.Ns c.L m) (hl : ∀ y u, loc.lookup y = some u → ∃ u', m y = some u' ∧ VRep ρ s.heap u u')
    (hn : h'.Ns c.L (fun y => if y = x then some v' else m y)) (hs : Heap.SameBut c.L s.heap h') (hv : VRep ρ s.heap v v') : Post c ρ s (setL x v loc) cs { s with heap := h', toks := tk } ρ := by
  refine hideG fun Gq hGq => ?_
  obtain ⟨oL, es, ep, hoL, hd⟩ := R.Lget
  have tk0 : TK s.heap h' := dict_not_tuple hd hoL hs.extBut
  obtain ⟨⟨n1, n1z⟩, n2, _, n4, n5⟩ := R.nodupL
  refine hGq ?_
  clear hGq Gq
  refine ⟨List.prefix_refl _, tk0, ?_⟩
  have fr := R.fresh c.L (.head _)
  refine ⟨⟨fun b o e n => hs.extBut b o (by rintro rfl; rw [fr.1] at e; cases e) (R.stat.keep b o e n), fun b hb => let ⟨vs, e, te⟩ := R.stat.tab b hb; ⟨vs, hs.extBut b _ (by rintro rfl; exact fr.2 hb) e, te⟩, R.stat.bare, R.stat.os⟩, ?_, ?_, fun p hp => hs.extBut _ _ (by rintro e; exact n1z (e ▸ List.mem_map_of_mem hp)) (R.frz p hp), R.len, ?_, R.apart, R.fresh⟩
  · refine ⟨_, hn, fun y u e => ?_⟩
    rw [lookup_setL] at e
    by_cases hy : y = x
    · rw [if_pos hy] at e; cases e
      exact ⟨v', by simp [hy], hv.mono (List.prefix_refl _) tk0⟩
    · rw [if_neg hy] at e
      obtain ⟨u', e1, e2⟩ := hl y u e
      exact ⟨u', by simp [hy, e1], e2.mono (List.prefix_refl _) tk0⟩
  · intro p hp
    exact (R.frs p hp).mono (List.prefix_refl _) tk0 fun _ n => n.extBut hs.extBut (by rintro e; exact n1 (e ▸ List.mem_map_of_mem hp))
  · intro i ac as hi ha
    exact (R.cells i ac as hi ha).mono (List.prefix_refl _) tk0 (fun a hm o e => hs.extBut a o (by rintro rfl; exact n2 (getElem?_mem_flatten ha hm)) e) fun _ _ e => e

theorem Rep.setCell (R : Rep c ρ loc cs s) {i : Nat} {as : List Addr} {ac' : AC} {b : Addr} {ob : Obj} (ha : ρ[i]? = some as) (hb : b ∈ as) (hob : s.heap.get? b = some ob) (hc : ob.cls ≠ .type "tuple")
    (hx : Heap.ExtBut b s.heap s'.heap) (hg : ∀ (g : Nat) gs, s.gens[g]? = some gs → s'.gens[g]? = some gs) (hbare : AllBare s'.gens) (ho : s'.os = s.os)
    (hn : CellAt w.params ρ s' ac' as) : Post c ρ s loc (cs.set i ac') s' ρ := by
  have tk0 : TK s.heap s'.heap := TK.of_extBut hx hob hc
  refine hideG fun Gq hGq => ?_
  obtain ⟨n1, n2, n3, n4, n5⟩ := R.nodupL
  refine hGq ?_
  clear hGq Gq
  have hbf := getElem?_mem_flatten ha hb
  have fr := R.fresh b (List.mem_cons_of_mem _ (List.mem_append_right _ hbf))
  refine ⟨List.prefix_refl _, tk0, ⟨⟨fun b' o e n => hx b' o (by rintro rfl; rw [fr.1] at e; cases e) (R.stat.keep b' o e n), fun b' hb' => let ⟨vs, e, te⟩ := R.stat.tab b' hb'; ⟨vs, hx b' _ (by rintro rfl; exact fr.2 hb') e, te⟩, hbare, ho.trans R.stat.os⟩, ?_, ?_, fun p hp => hx _ _ (by rintro e; exact n5 p hp (e ▸ hbf)) (R.frz p hp), ?_, ?_, R.apart, R.fresh⟩⟩
  · exact R.fr.mono (List.prefix_refl _) tk0 fun _ n => n.extBut hx (by rintro rfl; exact n2 hbf)
  · exact fun p hp => (R.frs p hp).mono (List.prefix_refl _) tk0 fun _ n => n.extBut hx (by rintro rfl; exact n4 p hp hbf)
  · rw [List.length_set]; exact R.len
  · intro j ac as' hj hj'
    by_cases e : i = j
    · subst e
      rw [ha] at hj'; cases hj'
      rw [List.getElem?_set_self (by have := (List.getElem?_eq_some_iff.mp ha).1; rw [R.len] at this; exact this)] at hj
      cases hj; exact hn
    · rw [List.getElem?_set_ne e] at hj
      exact (R.cells j ac as' hj hj').mono (List.prefix_refl _) tk0 (fun a hm o e' => hx a o (by rintro rfl; exact flatten_apart n3 ha hj' e hb hm) e') hg

theorem Stat.new {B : Bs w} (S : Stat B s) {a : Addr} (h : s.heap.objs.size ≤ a) : B.h.get? a = none ∧ a ∉ tabs := by
  have q : a ∉ tabs := fun hm => by
    obtain ⟨vs, e, _⟩ := S.tab a hm
    exact Nat.lt_irrefl _ (Nat.lt_of_lt_of_le (Heap.lt_size e) h)
  refine ⟨?_, q⟩
  cases e : B.h.get? a with
  | none => rfl
  | some o => exact absurd (Nat.lt_of_lt_of_le (Heap.lt_size (S.keep a o e q)) h) (Nat.lt_irrefl _)

theorem CellAt.owned {P : Params} {ac : AC} {as : List Addr} (x : CellAt P ρ s ac as) : ∀ a ∈ as, ∃ o, s.heap.get? a = some o := by
  intro a ha
  cases ac with
  | intL l => obtain ⟨a', vs, rfl, ⟨n, x⟩, y⟩ := x; simp at ha; subst ha; exact ⟨_, x⟩
  | strL l => obtain ⟨a', vs, rfl, ⟨n, x⟩, y⟩ := x; simp at ha; subst ha; exact ⟨_, x⟩
  | acc l i =>
    refine hideG fun Gq hGq => ?_
    obtain ⟨a', d, vs, n, t, rfl, x, ⟨es, n', y, _⟩, z⟩ := x
    refine hGq ?_
    clear hGq Gq
    simp at ha
    rcases ha with rfl | rfl
    · exact ⟨_, x⟩
    · exact ⟨_, y⟩
  | fm ml ws li ai =>
    refine hideG fun Gq hGq => ?_
    obtain ⟨a', d, t1, t2, t3, vsp, la, lr, aa, ar, rfl, x, y, z, ⟨es, n', u, _⟩⟩ := x
    refine hGq ?_
    clear hGq Gq
    simp at ha
    rcases ha with rfl | rfl
    · exact ⟨_, x⟩
    · exact ⟨_, u⟩
  | coder =>
    refine hideG fun Gq hGq => ?_
    obtain ⟨a', d, fd, t, rfl, x, ⟨es, n', u, _⟩⟩ := x
    refine hGq ?_
    clear hGq Gq
    simp at ha
    rcases ha with rfl | rfl
    · exact ⟨_, x⟩
    · exact ⟨_, u⟩
  | gen f b =>
    refine hideG fun Gq hGq => ?_
    obtain ⟨a', L, g, fa, fr, m, gs, rfl, x, y, z, u, v, r⟩ := x
    refine hGq ?_
    clear hGq Gq
    simp at ha
    rcases ha with rfl | rfl
    · obtain ⟨o, nm, qn, ho, r⟩ := x; exact ⟨o, ho⟩
    · obtain ⟨o, _, _, ho, _⟩ := z; exact ⟨o, ho⟩
  | run o g =>
    refine hideG fun Gq hGq => ?_
    obtain ⟨a', rfl, x, _⟩ := x
    refine hGq ?_
    clear hGq Gq
    simp at ha; subst ha; exact ⟨_, x⟩
  | fix o =>
    obtain ⟨a', rfl, x⟩ := x
    simp at ha; subst ha; exact ⟨_, x⟩

theorem Rep.owned (R : Rep c ρ loc cs s) : ∀ a ∈ c.L :: (c.own ++ ρ.flatten), a < s.heap.objs.size := by
  intro a ha
  rcases List.mem_cons.mp ha with rfl | ha
  · obtain ⟨m, n, _⟩ := R.fr; exact n.lt
  rcases List.mem_append.mp ha with ha | ha
  · rcases List.mem_append.mp ha with ha | ha
    · obtain ⟨p, hp, rfl⟩ := List.mem_map.mp ha
      obtain ⟨m, n, _⟩ := R.frs p hp; exact n.lt
    · obtain ⟨p, hp, rfl⟩ := List.mem_map.mp ha
      exact Heap.lt_size (R.frz p hp)
  · obtain ⟨as, has, hm⟩ := List.mem_flatten.mp ha
    obtain ⟨i, hi⟩ := List.getElem?_of_mem has
    have hlt := (List.getElem?_eq_some_iff.mp hi).1
    rw [R.len] at hlt
    obtain ⟨o, ho⟩ := CellAt.owned (R.cells i _ as (List.getElem?_eq_getElem hlt) hi) a hm
    exact Heap.lt_size ho

theorem Rep.newCell (R : Rep c ρ loc cs s) {as : List Addr} {ac : AC} (hk : ∀ b o, s.heap.get? b = some o → s'.heap.get? b = some o) (hg : ∀ (g : Nat) gs, s.gens[g]? = some gs → s'.gens[g]? = some gs)
    (hb : AllBare s'.gens) (ho : s'.os = s.os) (hnew : ∀ a ∈ as, s.heap.objs.size ≤ a) (hnd : as.Nodup) (hn : CellAt w.params (ρ ++ [as]) s' ac as) : Post c ρ s loc (cs ++ [ac]) s' (ρ ++ [as]) := by
  have R' := R.ext hk hg hb ho
  have hp : ρ <+: ρ ++ [as] := List.prefix_append _ _
  refine ⟨hp, TK.of_keeps hk, ⟨R'.stat, R'.fr.mono hp (TK.refl _) fun _ n => n, fun p hp' => (R'.frs p hp').mono hp (TK.refl _) fun _ n => n, R'.frz, by simp [R.len], ?_, ?_, ?_⟩⟩
  · intro i ac' as' hi ha
    by_cases hlt : i < cs.length
    · rw [List.getElem?_append_left hlt] at hi
      rw [List.getElem?_append_left (by rw [R.len]; exact hlt)] at ha
      exact (R'.cells i ac' as' hi ha).mono hp (TK.refl _) (fun _ _ _ e => e) fun _ _ e => e
    · have hi' : i = cs.length := by
        have := (List.getElem?_eq_some_iff.mp hi).1
        simp at this; lia
      subst hi'
      rw [List.getElem?_append_right (Nat.le_refl _)] at hi
      rw [List.getElem?_append_right (by rw [R.len]; exact Nat.le_refl _), R.len] at ha
      simp at hi ha
      subst hi ha
      exact hn
  · have h := R.apart
    have ow := R.owned
    rw [List.flatten_append, List.flatten_cons, List.flatten_nil, List.append_nil, ← List.append_assoc, ← List.cons_append, List.nodup_append]
    refine ⟨h, hnd, fun a ha b hb' e => ?_⟩
    subst e
    exact Nat.lt_irrefl _ (Nat.lt_of_lt_of_le (ow a ha) (hnew a hb'))
  · intro a ha
    rw [List.flatten_append, List.flatten_cons, List.flatten_nil, List.append_nil, ← List.append_assoc, ← List.cons_append] at ha
    rcases List.mem_append.mp ha with ha | ha
    · exact R.fresh a ha
    · exact R.stat.new (hnew a ha)

noncomputable def Closed (n : Nat) : AC → Prop
  | .fm _ _ li ai => li < n ∧ ai < n
  | .gen f _ => f < n
  | _ => True
theorem CellAt.shrink {P : Params} {s : Shared} {ac : AC} {as : List Addr} {n : Nat} (x : CellAt P ρ s ac as) (hc : Closed n ac) : CellAt P (ρ.take n) s ac as := by
  have tk : ∀ {i : Nat} {a}, i < n → ρ[i]? = some a → (ρ.take n)[i]? = some a := fun h e => by rw [List.getElem?_take_of_lt h]; exact e
  cases ac with
  | fm ml ws li ai =>
    refine hideG fun Gq hGq => ?_
    obtain ⟨a, d, t1, t2, t3, vsp, la, lr, aa, ar, rfl, x, y, z, u⟩ := x
    refine hGq ?_
    clear hGq Gq
    exact ⟨a, d, t1, t2, t3, vsp, la, lr, aa, ar, rfl, x, tk hc.1 y, tk hc.2 z, u⟩
  | gen f b =>
    refine hideG fun Gq hGq => ?_
    obtain ⟨a, L, g, fa, fr, m, gs, rfl, x, y, r⟩ := x
    refine hGq ?_
    clear hGq Gq
    exact ⟨a, L, g, fa, fr, m, gs, rfl, x, tk hc y, r⟩
  | _ => exact x
end
end
end Mine
namespace Mine
open PySem PySem.W PyProof.Rows PySem.Calls
noncomputable section

section
variable {w : World} {c : Cx w} {k : Nat} {sc : Scope}
theorem Cx.OK.scope (O : c.OK k sc) : c.env.scope = sc := by
  have : c.env.scope = c.fd.scope := rfl
  rw [this]; exact O.hsc
theorem Cx.OK.kindOf (O : c.OK k sc) (x : Str) : c.env.kindOf x = sc.names.lookup x := by unfold Env.kindOf; rw [O.scope]
theorem Cx.OK.skind (O : c.OK k sc) : c.env.scope.kind = .function := by rw [O.scope]; exact O.kind
theorem Cx.OK.locals (O : c.OK k sc) : c.env.locals = c.L := rfl
theorem Cx.OK.globals (O : c.OK k sc) : c.env.globals = mainGlobals := O.glob
theorem Cx.OK.builtins (O : c.OK k sc) : c.env.builtins = builtinsNs := O.blt
theorem Cx.OK.inter (O : c.OK k sc) : interactive c.env = false := by unfold interactive; rw [O.skind]; rfl
theorem Cx.OK.plainStore (O : c.OK k sc) : (c.env.scope.kind == .class || (c.env.scope.kind == .module && c.env.locals != c.env.globals)) = false := by rw [O.skind]; rfl
theorem Cx.OK.mono {k' : Nat} (O : c.OK k sc) (h : k' ≤ k) : c.OK k' sc := ⟨O.hsc, O.kind, O.glob, O.blt, O.hd, O.fr, by have := O.depth; lia, by have := O.units; lia, O.out⟩
end

theorem Ev.mono {k k' : Nat} {sc loc cs e v cs'} (h : Ev k sc loc cs e v cs') (hk : k ≤ k') : Ev k' sc loc cs e v cs' := fun w c ρ s O R => h w c ρ s (O.mono hk) R
theorem Cl.mono {k k' : Nat} {cs f args v cs'} (h : Cl k cs f args v cs') (hk : k ≤ k') : Cl k' cs f args v cs' := fun w c ρ loc s vs sc O R V => h w c ρ loc s vs sc (O.mono hk) R V

section
variable {k : Nat} {sc : Scope} {loc : Locs} {cs : List AC}

theorem ev_none {n p} : Ev k sc loc cs (.Constant .none n p) .none cs := fun w c ρ s O R => wpAny_Constant_none ⟨ρ, .refl R, rfl⟩
theorem ev_bool {b n p} : Ev k sc loc cs (.Constant (.bool b) n p) (.bool b) cs := fun w c ρ s O R => wpAny_Constant_bool ⟨ρ, .refl R, rfl⟩
theorem ev_int {i n p} : Ev k sc loc cs (.Constant (.int i) n p) (.int i) cs := fun w c ρ s O R => wpAny_Constant_int ⟨ρ, .tok R _, _, rfl⟩
theorem ev_str {x n p} : Ev k sc loc cs (.Constant (.str x) n p) (.str x) cs := fun w c ρ s O R => PySem.wpAny_Constant_str ⟨ρ, .tok R _, _, rfl⟩

theorem ev_local {x : Str} {p : Pos} {v : AV} (hx : sc.names.lookup x = some .local) (hv : loc.lookup x = some v) (hd : (x == ("__debug__" : Str)) = false) : Ev k sc loc cs (.Name x p) v cs := by
  intro w c ρ s O R
  obtain ⟨m, n, q⟩ := R.fr
  obtain ⟨v', e, r⟩ := q x v hv
  exact wpAny_Name (wpAny_loadName_local O.skind (by rw [O.kindOf]; exact hx) n e ⟨ρ, .refl R, r⟩) hd

noncomputable def Gl (x : Str) (v : Value) : Prop := ∀ (w : World) (B : Bs w), B.mg x = some v ∨ (B.mg x = none ∧ B.mb x = some v)

theorem Stat.ns {w : World} {B : Bs w} {s : Shared} (S : Stat B s) {a : Addr} {m} (h : B.h.Ns a m) (ha : a ∉ tabs) : s.heap.Ns a m :=
  let ⟨o, es, ep, e, r⟩ := h; ⟨o, es, ep, S.keep _ _ e ha, r⟩
theorem Stat.lim {w : World} {B : Bs w} {s : Shared} (S : Stat B s) : s.heap.NoLimit := let ⟨mc, n, e⟩ := B.lim; ⟨mc, S.ns n (by decide), e⟩

theorem ev_stat {x : Str} {p : Pos} {v : Value} (hx : sc.names.lookup x = some .globalImplicit) (g : Gl x v) (hd : (x == ("__debug__" : Str)) = false) : Ev k sc loc cs (.Name x p) (.stat v) cs := by
  intro w c ρ s O R
  refine Name_function_global O.skind (by rw [O.kindOf]; exact hx) ?_ hd
  have n1 : s.heap.Ns c.env.globals c.B.mg := by rw [O.globals]; exact R.stat.ns c.B.ng (by decide)
  have n2 : s.heap.Ns c.env.builtins c.B.mb := by rw [O.builtins]; exact R.stat.ns c.B.nb (by decide)
  rcases g w c.B with e | ⟨e1, e2⟩
  · exact loadGlobal_global n1 e ⟨ρ, .refl R, rfl⟩
  · exact loadGlobal_builtin n1 e1 n2 e2 ⟨ρ, .refl R, rfl⟩
theorem ev_globInt {x : Str} {p : Pos} {i : Int} (hx : sc.names.lookup x = some .globalImplicit) (g : ∀ (w : World) (B : Bs w), ∃ t, B.mg x = some (.int i t)) (hd : (x == ("__debug__" : Str)) = false) : Ev k sc loc cs (.Name x p) (.int i) cs := by
  intro w c ρ s O R
  refine Name_function_global O.skind (by rw [O.kindOf]; exact hx) ?_ hd
  have n1 : s.heap.Ns c.env.globals c.B.mg := by rw [O.globals]; exact R.stat.ns c.B.ng (by decide)
  obtain ⟨t, e⟩ := g w c.B
  exact loadGlobal_global n1 e ⟨ρ, .refl R, _, rfl⟩

noncomputable def BinOK (op : Operator) (a b v : AV) : Prop := ∀ (w : World) (A : Around) ρ (s : Shared) va vb (Q : Value → Shared → Prop) (E : Value → Shared → Prop), VRep ρ s.heap a va → VRep ρ s.heap b vb →
  (∀ v' tk, VRep ρ s.heap v v' → Q v' { s with toks := tk }) → wpAny (MD w) A (binaryOp op va vb) Q E s
noncomputable def CmpOK (op : CmpOp) (a b : AV) (r : Bool) : Prop := ∀ (w : World) (A : Around) ρ (s : Shared) va vb (Q : Value → Shared → Prop) (E : Value → Shared → Prop), A.units ≤ 9000 → VRep ρ s.heap a va → VRep ρ s.heap b vb →
  (∀ tk, Q (.bool r) { s with toks := tk }) → wpAny (MD w) A (compareOp op va vb) Q E s

theorem ev_bin {l r : Expr} {op p a b v cs1 cs2} (h1 : Ev k sc loc cs l a cs1) (h2 : Ev k sc loc cs1 r b cs2) (ho : BinOK op a b v) : Ev k sc loc cs (.BinOp l op r p) v cs2 := by
  intro w c ρ s O R
  refine wpAny_BinOp (wpAny_mono (h1 w c ρ s O R) (fun va s1 h => ?_) fun _ _ x => x.elim)
  obtain ⟨ρ1, P1, V1⟩ := h
  refine wpAny_mono (h2 w c ρ1 s1 O P1.rep) (fun vb s2 h => ?_) fun _ _ x => x.elim
  obtain ⟨ρ2, P2, V2⟩ := h
  exact ho w c.A ρ2 s2 va vb _ _ (V1.mono P2.pre P2.tk) V2 fun v' tk q => ⟨ρ2, (P1.trans P2).trans (.tok P2.rep tk), q⟩

theorem ev_cmp {l r : Expr} {op p a b v cs1 cs2} (h1 : Ev k sc loc cs l a cs1) (h2 : Ev k sc loc cs1 r b cs2) (ho : CmpOK op a b v) (hm : behindInMarks op r = false) : Ev k sc loc cs (.Compare l [op] [r] p) (.bool v) cs2 := by
  intro w c ρ s O R
  refine wpAny_Compare1 (wpAny_mono (h1 w c ρ s O R) (fun va s1 h => ?_) fun _ _ x => x.elim) hm
  obtain ⟨ρ1, P1, V1⟩ := h
  refine wpAny_mono (h2 w c ρ1 s1 O P1.rep) (fun vb s2 h => ?_) fun _ _ x => x.elim
  obtain ⟨ρ2, P2, V2⟩ := h
  exact ho w c.A ρ2 s2 va vb _ _ (by have := O.units; lia) (V1.mono P2.pre P2.tk) V2 fun tk => ⟨ρ2, (P1.trans P2).trans (.tok P2.rep tk), rfl⟩
theorem tst_cmp {l r : Expr} {op p a b v cs1 cs2} (h1 : Ev k sc loc cs l a cs1) (h2 : Ev k sc loc cs1 r b cs2) (ho : CmpOK op a b v) (hm : behindInMarks op r = false) : Tst k sc loc cs (.Compare l [op] [r] p) v cs2 := by
  intro w c ρ s O R
  refine wpAny_isTrue_Compare1 (wpAny_mono (h1 w c ρ s O R) (fun va s1 h => ?_) fun _ _ x => x.elim) hm
  obtain ⟨ρ1, P1, V1⟩ := h
  refine wpAny_mono (h2 w c ρ1 s1 O P1.rep) (fun vb s2 h => ?_) fun _ _ x => x.elim
  obtain ⟨ρ2, P2, V2⟩ := h
  exact ho w c.A ρ2 s2 va vb _ _ (by have := O.units; lia) (V1.mono P2.pre P2.tk) V2 fun tk => wpAny_truthy_bool ⟨rfl, ρ2, (P1.trans P2).trans (.tok P2.rep tk)⟩

theorem ev_neg {e : Expr} {p i cs1} (h : Ev k sc loc cs e (.int i) cs1) : Ev k sc loc cs (.UnaryOp .USub e p) (.int (-i)) cs1 := by
  intro w c ρ s O R
  refine wpAny_UnaryOp (wpAny_mono (h w c ρ s O R) (fun va s1 h => ?_) fun _ _ x => x.elim)
  obtain ⟨ρ1, P1, t, rfl⟩ := h
  exact PySem.P.neg_int ⟨ρ1, P1.trans (.tok P1.rep _), _, rfl⟩

noncomputable def TruOK (a : AV) (r : Bool) : Prop := ∀ (w : World) (A : Around) ρ (s : Shared) va (Q : Bool → Shared → Prop) (E : Value → Shared → Prop), VRep ρ s.heap a va → (∀ tk, Q r { s with toks := tk }) → wpAny (MD w) A (truthy va) Q E s
theorem tru_bool (b : Bool) : TruOK (.bool b) b := fun w A ρ s va Q E h q => by cases h; exact wpAny_truthy_bool (q s.toks)
theorem tru_int (i : Int) : TruOK (.int i) (i != 0) := fun w A ρ s va Q E h q => by obtain ⟨t, rfl⟩ := h; exact PySem.P.truthy_int (q s.toks)

theorem tst_val {e : Expr} {a b cs1} (h : Ev k sc loc cs e a cs1) (ht : TruOK a b) (he : ∀ env whole, isTrue e env whole = (do let v ← whole; standAt e.pos; holding [v] (truthy v))) : Tst k sc loc cs e b cs1 := by
  intro w c ρ s O R
  refine wpAny_isTrue_value (wpAny_mono (h w c ρ s O R) (fun va s1 h => ?_) fun _ _ x => x.elim) (he _ _)
  obtain ⟨ρ1, P1, V1⟩ := h
  exact ht w c.A ρ1 s1 va _ _ V1 fun tk => ⟨rfl, ρ1, P1.trans (.tok P1.rep tk)⟩
theorem tst_not {e : Expr} {p b cs1} (h : Tst k sc loc cs e b cs1) : Tst k sc loc cs (.UnaryOp .Not e p) (!b) cs1 := by
  intro w c ρ s O R
  refine wpAny_isTrue_Not (wpAny_mono (h w c ρ s O R) (fun b' s1 h => ?_) fun _ _ x => x.elim)
  obtain ⟨rfl, q⟩ := h
  exact ⟨rfl, q⟩
theorem tst_and_f {x y : Expr} {p cs1} (h : Tst k sc loc cs x false cs1) : Tst k sc loc cs (.BoolOp .And [x, y] p) false cs1 := by
  intro w c ρ s O R
  refine wpAny_isTrue_BoolOp (wpAny_allTrue_And_cons (wpAny_mono (h w c ρ s O R) (fun b' s1 h => ?_) fun _ _ x => x.elim))
  obtain ⟨rfl, q⟩ := h
  exact ⟨rfl, q⟩
theorem tst_and_t {x y : Expr} {p b cs1 cs2} (h : Tst k sc loc cs x true cs1) (h2 : Tst k sc loc cs1 y b cs2) : Tst k sc loc cs (.BoolOp .And [x, y] p) b cs2 := by
  intro w c ρ s O R
  refine wpAny_isTrue_BoolOp (wpAny_allTrue_And_cons (wpAny_mono (h w c ρ s O R) (fun b' s1 h => ?_) fun _ _ x => x.elim))
  obtain ⟨rfl, ρ1, P1⟩ := h
  rw [if_pos rfl]
  refine wpAny_allTrue_And_cons (wpAny_mono (h2 w c ρ1 s1 O P1.rep) (fun b' s2 h => ?_) fun _ _ x => x.elim)
  obtain ⟨rfl, ρ2, P2⟩ := h
  cases b'
  · exact ⟨rfl, ρ2, P1.trans P2⟩
  · exact wpAny_allTrue_And_nil ⟨rfl, ρ2, P1.trans P2⟩
theorem tst_or_t {x y : Expr} {p cs1} (h : Tst k sc loc cs x true cs1) : Tst k sc loc cs (.BoolOp .Or [x, y] p) true cs1 := by
  intro w c ρ s O R
  refine wpAny_isTrue_BoolOp (wpAny_allTrue_Or_cons (wpAny_mono (h w c ρ s O R) (fun b' s1 h => ?_) fun _ _ x => x.elim))
  obtain ⟨rfl, q⟩ := h
  exact ⟨rfl, q⟩
theorem tst_or_f {x y : Expr} {p b cs1 cs2} (h : Tst k sc loc cs x false cs1) (h2 : Tst k sc loc cs1 y b cs2) : Tst k sc loc cs (.BoolOp .Or [x, y] p) b cs2 := by
  intro w c ρ s O R
  refine wpAny_isTrue_BoolOp (wpAny_allTrue_Or_cons (wpAny_mono (h w c ρ s O R) (fun b' s1 h => ?_) fun _ _ x => x.elim))
  obtain ⟨rfl, ρ1, P1⟩ := h
  rw [if_neg Bool.false_ne_true]
  refine wpAny_allTrue_Or_cons (wpAny_mono (h2 w c ρ1 s1 O P1.rep) (fun b' s2 h => ?_) fun _ _ x => x.elim)
  obtain ⟨rfl, ρ2, P2⟩ := h
  cases b'
  · exact wpAny_allTrue_Or_nil ⟨rfl, ρ2, P1.trans P2⟩
  · exact ⟨rfl, ρ2, P1.trans P2⟩

theorem ev_if {t a b : Expr} {p cb v cs1 cs2} (h : Tst k sc loc cs t cb cs1) (h2 : Ev k sc loc cs1 (if cb then a else b) v cs2) : Ev k sc loc cs (.IfExp t a b p) v cs2 := by
  intro w c ρ s O R
  refine wpAny_IfExp (wpAny_mono (h w c ρ s O R) (fun b' s1 h => ?_) fun _ _ x => x.elim)
  obtain ⟨rfl, ρ1, P1⟩ := h
  have z := h2 w c ρ1 s1 O P1.rep
  cases b'
  · exact wpAny_mono z (fun v s2 ⟨ρ2, P2, q⟩ => ⟨ρ2, P1.trans P2, q⟩) fun _ _ x => x.elim
  · exact wpAny_mono z (fun v s2 ⟨ρ2, P2, q⟩ => ⟨ρ2, P1.trans P2, q⟩) fun _ _ x => x.elim

theorem evl_nil : EvL k sc loc cs [] [] cs := fun w c ρ s pos O R => wpAny_items_nil ⟨ρ, .refl R, .nil⟩
theorem evl_cons {e : Expr} {es v vs cs1 cs2} (h : Ev k sc loc cs e v cs1) (h2 : EvL k sc loc cs1 es vs cs2) (he : ∀ env, starEach (e :: es) env = (false, eval e env) :: starEach es env) : EvL k sc loc cs (e :: es) (v :: vs) cs2 := by
  intro w c ρ s pos O R
  refine wpAny_items_cons (wpAny_mono (h w c ρ s O R) (fun v' s1 h => ?_) fun _ _ x => x.elim) (he _)
  obtain ⟨ρ1, P1, V1⟩ := h
  refine wpAny_mono (h2 w c ρ1 s1 pos O P1.rep) (fun vs' s2 h => ?_) fun _ _ x => x.elim
  obtain ⟨ρ2, P2, V2⟩ := h
  exact ⟨ρ2, P1.trans P2, .cons (V1.mono P2.pre P2.tk) V2⟩
end

theorem bin_add (a b : Int) : BinOK .Add (.int a) (.int b) (.int (a + b)) := fun w A ρ s va vb Q E ⟨t, h⟩ ⟨u, h'⟩ q => by subst h h'; exact PySem.P.add_int (q _ _ ⟨_, rfl⟩)
theorem bin_sub (a b : Int) : BinOK .Sub (.int a) (.int b) (.int (a - b)) := fun w A ρ s va vb Q E ⟨t, h⟩ ⟨u, h'⟩ q => by subst h h'; exact PySem.P.sub_int (q _ _ ⟨_, rfl⟩)
theorem bin_and (a b : Int) : BinOK .BitAnd (.int a) (.int b) (.int (Builtin.bitAnd a b)) := fun w A ρ s va vb Q E ⟨t, h⟩ ⟨u, h'⟩ q => by subst h h'; exact and_int (q _ _ ⟨_, rfl⟩)
theorem bin_or (a b : Int) : BinOK .BitOr (.int a) (.int b) (.int (Builtin.bitOr a b)) := fun w A ρ s va vb Q E ⟨t, h⟩ ⟨u, h'⟩ q => by subst h h'; exact or_int (q _ _ ⟨_, rfl⟩)
theorem bin_mod (a b : Int) (hb : b ≠ 0) : BinOK .Mod (.int a) (.int b) (.int (a.fmod b)) := fun w A ρ s va vb Q E ⟨t, h⟩ ⟨u, h'⟩ q => by subst h h'; exact mod_int' hb (q _ _ ⟨_, rfl⟩)
theorem bin_div (a b : Int) (hb : b ≠ 0) (hp : Builtin.divisionGoesByPylong a b = false) : BinOK .FloorDiv (.int a) (.int b) (.int (a.fdiv b)) := fun w A ρ s va vb Q E ⟨t, h⟩ ⟨u, h'⟩ q => by subst h h'; exact floordiv_int hb (q _ _ ⟨_, rfl⟩) (.inl hp)
theorem bin_mul (a b : Int) (hb : IntMulOk a b) : BinOK .Mult (.int a) (.int b) (.int (a * b)) := fun w A ρ s va vb Q E ⟨t, h⟩ ⟨u, h'⟩ q => by subst h h'; exact PySem.P.mul_int (q _ _ ⟨_, rfl⟩) hb
theorem str_empty_of {x : Str} (h : (x.length == 0) = true) : x = ⟨#[]⟩ := by
  obtain ⟨a⟩ := x
  have : a.size = 0 := by simpa [Str.length] using h
  rw [Array.eq_empty_of_size_eq_zero this]
theorem bin_cat (x y : Str) (hl : x.length + y.length ≤ 10000) : BinOK .Add (.str x) (.str y) (.str (x ++ y)) := fun w A ρ s va vb Q E ⟨t, h⟩ ⟨u, h'⟩ q => by
  subst h h'
  refine PySem.P.add_str ?_
  by_cases h1 : (x.length == 0) = true
  · rw [if_pos h1]
    have e : x ++ y = y := by rw [str_empty_of h1]; exact Str.empty_append y
    exact q _ s.toks ⟨_, by rw [e]⟩
  · rw [if_neg h1]
    by_cases h2 : (y.length == 0) = true
    · rw [if_pos h2]
      have e : x ++ y = x := by rw [str_empty_of h2]; exact Str.append_empty x
      exact q _ s.toks ⟨_, by rw [e]⟩
    · rw [if_neg h2]
      exact ⟨by rw [Str.length_append, sizeLine_eq]; lia, q _ _ ⟨_, rfl⟩⟩

theorem cmp_eqI (a b : Int) : CmpOK .Eq (.int a) (.int b) (a == b) := fun w A ρ s va vb Q E hu ⟨t, h⟩ ⟨u, h'⟩ q => by subst h h'; exact PySem.P.eq_int (q _)
theorem cmp_neI (a b : Int) : CmpOK .NotEq (.int a) (.int b) (a != b) := fun w A ρ s va vb Q E hu ⟨t, h⟩ ⟨u, h'⟩ q => by subst h h'; exact PySem.P.ne_int (q _)
theorem cmp_ltI (a b : Int) : CmpOK .Lt (.int a) (.int b) (decide (a < b)) := fun w A ρ s va vb Q E hu ⟨t, h⟩ ⟨u, h'⟩ q => by subst h h'; exact PySem.P.lt_int (q _)
theorem cmp_leI (a b : Int) : CmpOK .LtE (.int a) (.int b) (decide (a ≤ b)) := fun w A ρ s va vb Q E hu ⟨t, h⟩ ⟨u, h'⟩ q => by subst h h'; exact PySem.P.le_int (q _)
theorem cmp_gtI (a b : Int) : CmpOK .Gt (.int a) (.int b) (decide (a > b)) := fun w A ρ s va vb Q E hu ⟨t, h⟩ ⟨u, h'⟩ q => by subst h h'; exact PySem.P.gt_int (q _)
theorem str_toList_beq (x y : Str) : (x.cps.toList == y.cps.toList) = decide (x = y) := by
  obtain ⟨⟨a⟩⟩ := x
  obtain ⟨⟨b⟩⟩ := y
  by_cases h : a = b
  · subst h; simp
  · simp [h]
theorem cmp_eqS (x y : Str) : CmpOK .Eq (.str x) (.str y) (decide (x = y)) := fun w A ρ s va vb Q E hu ⟨t, h⟩ ⟨u, h'⟩ q => by subst h h'; exact PySem.P.eq_str (by rw [str_toList_beq]; exact q s.toks)
theorem cmp_neS (x y : Str) : CmpOK .NotEq (.str x) (.str y) (!decide (x = y)) := fun w A ρ s va vb Q E hu ⟨t, h⟩ ⟨u, h'⟩ q => by subst h h'; exact PySem.P.ne_str (by rw [bne, str_toList_beq]; exact q s.toks)
noncomputable def AV.isNone : AV → Bool
  | .none => true
  | _ => false
theorem vrep_isNone {ρ h a v} (x : VRep ρ h a v) (hs : ∀ u, a = .stat u → u ≠ .none) : (v == .none) = a.isNone := by
  cases a <;> simp only [VRep] at x
  · subst x; rfl
  · subst x; rfl
  · obtain ⟨t, rfl⟩ := x; rfl
  · obtain ⟨t, rfl⟩ := x; rfl
  · obtain ⟨a, vs, rfl, _⟩ := x; rfl
  · obtain ⟨a, vs, rfl, _⟩ := x; rfl
  · rename_i u; subst x; have := hs _ rfl; simp [AV.isNone, this]
  · obtain ⟨a, vs, _, rfl⟩ := x; rfl
theorem cmp_isNone (a : AV) (hs : ∀ u, a = .stat u → u ≠ .none) : CmpOK .Is a .none a.isNone := fun w A ρ s va vb Q E hu h h' q => by
  cases h'; exact is_none (by rw [vrep_isNone h hs]; exact q s.toks)
theorem cmp_notNone (a : AV) (hs : ∀ u, a = .stat u → u ≠ .none) : CmpOK .IsNot a .none (!a.isNone) := fun w A ρ s va vb Q E hu h h' q => by
  cases h'; exact isNot_none (by rw [vrep_isNone h hs]; exact q s.toks)
end
end Mine
namespace Mine
open PySem PySem.W PyProof.Rows PySem.Calls
noncomputable section

section
variable {w : World} {c : Cx w} {ρ : List (List Addr)} {loc : Locs} {cs : List AC} {s s' : Shared}

noncomputable def Cx.ice (c : Cx w) (I : Addr) (o : Obj) : Cx w := { c with fz := (I, o) :: c.fz }
theorem Cx.OK.ice {k sc} (O : c.OK k sc) (I : Addr) (o : Obj) : (c.ice I o).OK k sc := ⟨O.hsc, O.kind, O.glob, O.blt, O.hd, O.fr, O.depth, O.units, O.out⟩

theorem Rep.addIce (R : Rep c ρ loc cs s) {I : Addr} {o : Obj} (hI : s'.heap.get? I = some o) (hnew : s.heap.objs.size ≤ I)
    (hk : ∀ b o, s.heap.get? b = some o → s'.heap.get? b = some o) (hg : ∀ (g : Nat) gs, s.gens[g]? = some gs → s'.gens[g]? = some gs) (hb : AllBare s'.gens) (ho : s'.os = s.os) :
    Rep (c.ice I o) ρ loc cs s' := by
  have R' := R.ext hk hg hb ho
  have hn : I ∉ c.L :: (c.own ++ ρ.flatten) := fun hm => Nat.lt_irrefl _ (Nat.lt_of_lt_of_le (R.owned I hm) hnew)
  have perm : List.Perm (I :: (c.L :: (c.own ++ ρ.flatten))) (c.L :: ((c.ice I o).own ++ ρ.flatten)) := by
    refine (List.Perm.swap _ _ _).trans (List.Perm.cons _ ?_)
    show List.Perm (I :: (c.own ++ ρ.flatten)) ((c.fs.map (·.1) ++ I :: c.fz.map (·.1)) ++ ρ.flatten)
    rw [← List.cons_append]
    refine List.Perm.append_right _ ?_
    exact List.perm_middle.symm
  refine ⟨R'.stat, R'.fr, R'.frs, ?_, R'.len, R'.cells, perm.nodup_iff.mp (List.nodup_cons.mpr ⟨hn, R'.apart⟩), fun a ha => ?_⟩
  · intro p hp
    rcases List.mem_cons.mp hp with rfl | hp
    · exact hI
    · exact R'.frz p hp
  · have := perm.mem_iff.mpr ha
    rcases List.mem_cons.mp this with rfl | h
    · exact R.stat.new hnew
    · exact R.fresh a h

theorem Rep.perm (c : Cx w) (I : Addr) (o : Obj) (ρ : List (List Addr)) : List.Perm (I :: (c.L :: (c.own ++ ρ.flatten))) (c.L :: ((c.ice I o).own ++ ρ.flatten)) := by
  refine (List.Perm.swap _ _ _).trans (List.Perm.cons _ ?_)
  show List.Perm (I :: (c.own ++ ρ.flatten)) ((c.fs.map (·.1) ++ I :: c.fz.map (·.1)) ++ ρ.flatten)
  rw [← List.cons_append]
  exact List.Perm.append_right _ List.perm_middle.symm

theorem Rep.melt {I : Addr} {o : Obj} (R : Rep (c.ice I o) ρ loc cs s) : Rep c ρ loc cs s := by
  have perm := Rep.perm c I o ρ
  exact ⟨R.stat, R.fr, R.frs, fun p hp => R.frz p (List.mem_cons_of_mem _ hp), R.len, R.cells, (List.nodup_cons.mp (perm.nodup_iff.mpr R.apart)).2, fun a ha => R.fresh a (perm.mem_iff.mp (List.mem_cons_of_mem _ ha))⟩
theorem Post.melt {I : Addr} {o : Obj} {loc1 cs1 s1 ρ1} (P : Post (c.ice I o) ρ s loc1 cs1 s1 ρ1) : Post c ρ s loc1 cs1 s1 ρ1 := ⟨P.pre, P.tk, P.rep.melt⟩

theorem Rep.reice {I : Addr} {o o' : Obj} (R : Rep (c.ice I o) ρ loc cs s) {h' : Heap} {tk : Tok} (hx : Heap.ExtBut I s.heap h') (hI : h'.get? I = some o') (hc : o.cls ≠ .type "tuple") :
    Rep (c.ice I o') ρ loc cs { s with heap := h', toks := tk } ∧ TK s.heap h' := by
  have hIo := R.frz (I, o) (.head _)
  have tk0 : TK s.heap h' := TK.of_extBut hx hIo hc
  have perm := Rep.perm c I o ρ
  have nd := perm.nodup_iff.mpr R.apart
  have hIn := (List.nodup_cons.mp nd).1
  have frI := R.fresh I (perm.mem_iff.mp (.head _))
  have ne : ∀ a ∈ c.L :: (c.own ++ ρ.flatten), a ≠ I := fun a ha e => hIn (e ▸ ha)
  refine ⟨⟨⟨fun b o e n => hx b o (by rintro rfl; cases (show c.B.h.get? b = none from frI.1).symm.trans e) (R.stat.keep b o e n), fun b hb => let ⟨vs, e, te⟩ := R.stat.tab b hb; ⟨vs, hx b _ (by rintro rfl; exact frI.2 hb) e, te⟩, R.stat.bare, R.stat.os⟩, ?_, ?_, ?_, R.len, ?_, ?_, ?_⟩, tk0⟩
  · exact R.fr.mono (List.prefix_refl _) tk0 fun _ n => n.extBut hx (ne _ (.head _))
  · exact fun p hp => (R.frs p hp).mono (List.prefix_refl _) tk0 fun _ n => n.extBut hx (ne _ (List.mem_cons_of_mem _ (List.mem_append_left _ (List.mem_append_left _ (List.mem_map_of_mem hp)))))
  · intro p hp
    rcases List.mem_cons.mp hp with rfl | hp
    · exact hI
    · exact hx _ _ (ne _ (List.mem_cons_of_mem _ (List.mem_append_left _ (List.mem_append_right _ (List.mem_map_of_mem hp))))) (R.frz p (List.mem_cons_of_mem _ hp))
  · intro i ac as hi ha
    exact (R.cells i ac as hi ha).mono (List.prefix_refl _) tk0 (fun a hm o e => hx a o (ne _ (List.mem_cons_of_mem _ (List.mem_append_right _ (getElem?_mem_flatten ha hm)))) e) fun _ _ e => e
  · exact (Rep.perm c I o' ρ).nodup_iff.mp nd
  · exact fun a ha => R.fresh a (perm.mem_iff.mp ((Rep.perm c I o' ρ).mem_iff.mpr ha))
theorem Rep.thaw {I : Addr} {o : Obj} (R : Rep (c.ice I o) ρ loc cs s) {h' : Heap} {tk : Tok} (hx : Heap.ExtBut I s.heap h') (hc : o.cls ≠ .type "tuple") :
    Rep c ρ loc cs { s with heap := h', toks := tk } ∧ TK s.heap h' := by
  have hIo := R.frz (I, o) (.head _)
  have tk0 : TK s.heap h' := TK.of_extBut hx hIo hc
  have perm := Rep.perm c I o ρ
  have nd := perm.nodup_iff.mpr R.apart
  have hIn := (List.nodup_cons.mp nd).1
  have frI := R.fresh I (perm.mem_iff.mp (.head _))
  have ne : ∀ a ∈ c.L :: (c.own ++ ρ.flatten), a ≠ I := fun a ha e => hIn (e ▸ ha)
  refine ⟨⟨⟨fun b o e n => hx b o (by rintro rfl; cases (show c.B.h.get? b = none from frI.1).symm.trans e) (R.stat.keep b o e n), fun b hb => let ⟨vs, e, te⟩ := R.stat.tab b hb; ⟨vs, hx b _ (by rintro rfl; exact frI.2 hb) e, te⟩, R.stat.bare, R.stat.os⟩, ?_, ?_, ?_, R.len, ?_, (List.nodup_cons.mp nd).2, ?_⟩, tk0⟩
  · exact R.fr.mono (List.prefix_refl _) tk0 fun _ n => n.extBut hx (ne _ (.head _))
  · exact fun p hp => (R.frs p hp).mono (List.prefix_refl _) tk0 fun _ n => n.extBut hx (ne _ (List.mem_cons_of_mem _ (List.mem_append_left _ (List.mem_append_left _ (List.mem_map_of_mem hp)))))
  · intro p hp
    exact hx _ _ (ne _ (List.mem_cons_of_mem _ (List.mem_append_left _ (List.mem_append_right _ (List.mem_map_of_mem hp))))) (R.frz p (List.mem_cons_of_mem _ hp))
  · intro i ac as hi ha
    exact (R.cells i ac as hi ha).mono (List.prefix_refl _) tk0 (fun a hm o e => hx a o (ne _ (List.mem_cons_of_mem _ (List.mem_append_right _ (getElem?_mem_flatten ha hm)))) e) fun _ _ e => e
  · exact fun a ha => R.fresh a (perm.mem_iff.mp (List.mem_cons_of_mem _ ha))
end

section
variable {k : Nat} {sc : Scope} {loc : Locs} {cs : List AC}

theorem Exs.mono {k k' sc loc cs b f loc' cs'} (h : Exs k sc loc cs b f loc' cs') (hk : k ≤ k') : Exs k' sc loc cs b f loc' cs' := fun w c ρ s O R => h w c ρ s (O.mono hk) R

theorem exs_nil : Exs k sc loc cs [] .next loc cs := fun w c ρ s O R => wpAny_execs_nil ⟨ρ, .refl R, rfl⟩
theorem exs_cons {st rest loc1 cs1 f loc2 cs2} (h : Ex k sc loc cs st .next loc1 cs1) (h2 : Exs k sc loc1 cs1 rest f loc2 cs2) : Exs k sc loc cs (st :: rest) f loc2 cs2 := by
  intro w c ρ s O R
  refine wpAny_execs_cons (wpAny_mono (h w c ρ s O R) (fun f' s1 h => ?_) fun _ _ x => x.elim)
  obtain ⟨ρ1, P1, rfl⟩ := h
  exact wpAny_mono (h2 w c ρ1 s1 O P1.rep) (fun f'' s2 ⟨ρ2, P2, q⟩ => ⟨ρ2, P1.trans P2, q⟩) fun _ _ x => x.elim
theorem exs_ret {st rest v loc1 cs1} (h : Ex k sc loc cs st (.ret v) loc1 cs1) : Exs k sc loc cs (st :: rest) (.ret v) loc1 cs1 := by
  intro w c ρ s O R
  refine wpAny_execs_cons (wpAny_mono (h w c ρ s O R) (fun f' s1 h => ?_) fun _ _ x => x.elim)
  refine hideG fun Gq hGq => ?_
  obtain ⟨ρ1, P1, v', rfl, q⟩ := h
  refine hGq ?_
  clear hGq Gq
  exact ⟨ρ1, P1, v', rfl, q⟩

theorem ex_assign {x : Str} {p' : Pos} {e : Expr} {pos : Pos} {v cs1} (h : Ev k sc loc cs e v cs1) (hx : sc.names.lookup x = some .local) (hs : ∀ env, swapsWith e (some (.Name x p')) pos.line env = pure false) :
    Ex k sc loc cs (.Assign [.Name x p'] e pos) .next (setL x v loc) cs1 := by
  intro w c ρ s O R
  refine wpAny_Assign_Name (wpAny_mono (h w c ρ s O R) (fun v' s1 h => ?_) fun _ _ x => x.elim) (hs _)
  refine hideG fun Gq hGq => ?_
  obtain ⟨ρ1, P1, V⟩ := h
  obtain ⟨m, n, q⟩ := P1.rep.fr
  refine hGq ?_
  clear hGq Gq
  refine wpAny_storeName_local (by rw [O.kindOf]; exact hx) n (fun h' hn hsb => ⟨ρ1, P1.trans (P1.rep.setLoc n q hn hsb V), rfl⟩) O.plainStore

theorem ex_expr {e : Expr} {pos : Pos} {v cs1} (h : Ev k sc loc cs e v cs1) (hs : ∀ env, swapsWith e none pos.line env = pure false) : Ex k sc loc cs (.Expr e pos) .next loc cs1 := by
  intro w c ρ s O R
  refine wpAny_Expr_any (wpAny_mono (h w c ρ s O R) (fun v' s1 h => ?_) fun _ _ x => x.elim) O.inter (hs _)
  obtain ⟨ρ1, P1, V⟩ := h
  exact ⟨ρ1, P1, rfl⟩
theorem ex_ret {e : Expr} {pos : Pos} {v cs1} (h : Ev k sc loc cs e v cs1) : Ex k sc loc cs (.Return (some e) pos) (.ret v) loc cs1 := by
  intro w c ρ s O R
  refine wpAny_Return_some (wpAny_mono (h w c ρ s O R) (fun v' s1 h => ?_) fun _ _ x => x.elim)
  obtain ⟨ρ1, P1, V⟩ := h
  exact ⟨ρ1, P1, _, rfl, V⟩
theorem ex_ret0 {pos : Pos} : Ex k sc loc cs (.Return none pos) (.ret .none) loc cs := fun w c ρ s O R => wpAny_Return_none ⟨ρ, .refl R, _, rfl, rfl⟩
theorem ex_if {t : Expr} {body orelse : List Stmt} {p b cs1 f loc2 cs2} (h : Tst k sc loc cs t b cs1) (h2 : Exs k sc loc cs1 (if b then body else orelse) f loc2 cs2) : Ex k sc loc cs (.If t body orelse p) f loc2 cs2 := by
  intro w c ρ s O R
  refine wpAny_If (wpAny_mono (h w c ρ s O R) (fun b' s1 h => ?_) fun _ _ x => x.elim)
  obtain ⟨rfl, ρ1, P1⟩ := h
  have z := h2 w c ρ1 s1 O P1.rep
  cases b'
  · exact wpAny_mono z (fun v s2 ⟨ρ2, P2, q⟩ => ⟨ρ2, P1.trans P2, q⟩) fun _ _ x => x.elim
  · exact wpAny_mono z (fun v s2 ⟨ρ2, P2, q⟩ => ⟨ρ2, P1.trans P2, q⟩) fun _ _ x => x.elim

end
inductive Wh (k : Nat) (sc : Scope) (t : Expr) (body : List Stmt) : Nat → Locs → List AC → Locs → List AC → Prop
  | stop {loc cs cs'} : Tst k sc loc cs t false cs' → Wh k sc t body 0 loc cs loc cs'
  | turn {n loc cs cs1 loc2 cs2 loc' cs'} : Tst k sc loc cs t true cs1 → Exs k sc loc cs1 body .next loc2 cs2 → Wh k sc t body n loc2 cs2 loc' cs' → Wh k sc t body (n + 1) loc cs loc' cs'

inductive Fo (k : Nat) (sc : Scope) (x : Str) (body : List Stmt) (K : List AC → Prop) : List AV → Locs → List AC → Locs → List AC → Prop
  | nil {loc cs} : K cs → Fo k sc x body K [] loc cs loc cs
  | cons {v vs loc cs loc1 cs1 loc' cs'} : K cs → Exs k sc (setL x v loc) cs body .next loc1 cs1 → Fo k sc x body K vs loc1 cs1 loc' cs' → Fo k sc x body K (v :: vs) loc cs loc' cs'
section
variable {k : Nat} {sc : Scope} {loc : Locs} {cs : List AC}

theorem ex_while {t : Expr} {body : List Stmt} {p n loc' cs'} (h : Wh k sc t body n loc cs loc' cs') : Ex k sc loc cs (.While t body [] p) .next loc' cs' := by
  intro w c ρ s O R
  refine wpAny_While (codeAny_whileLoop (fun n s1 => ∃ ρ1 loc1 cs1, Wh k sc t body n loc1 cs1 loc' cs' ∧ Post c ρ s loc1 cs1 s1 ρ1) ?_ n ⟨ρ, loc, cs, h, .refl R⟩)
  rintro n s1 ⟨ρ1, loc1, cs1, W, P1⟩
  cases W with
  | stop T =>
    refine wpAny_mono (T w c ρ1 s1 O P1.rep) (fun b s2 h => ?_) fun _ _ x => x.elim
    obtain ⟨rfl, ρ2, P2⟩ := h
    exact wpAny_execs_nil ⟨ρ2, P1.trans P2, rfl⟩
  | turn T B W =>
    refine wpAny_mono (T w c ρ1 s1 O P1.rep) (fun b s2 h => ?_) fun _ _ x => x.elim
    obtain ⟨rfl, ρ2, P2⟩ := h
    refine wpAny_mono (B w c ρ2 s2 O P2.rep) (fun f s3 h => ?_) fun _ _ x => x.elim
    obtain ⟨ρ3, P3, rfl⟩ := h
    exact ⟨_, Nat.lt_succ_self _, ρ3, _, _, W, (P1.trans P2).trans P3⟩

theorem Fo.here {x body K vs loc' cs'} (h : Fo k sc x body K vs loc cs loc' cs') : K cs := by cases h <;> assumption

theorem for_core {w : World} {c : Cx w} (O : c.OK k sc) {x : Str} {px : Pos} {body : List Stmt} {I : Addr} {o : Obj} {items : List AV} {K : List AC → Prop} {loc' : Locs} {cs' : List AC} {ρ : List (List Addr)} {s : Shared}
    (P : Nat → Obj → Prop) (hP : ∀ i o, P i o → o.cls ≠ .type "tuple")
    (nxt : ∀ i v loc cs ρ' s o (Q : Option Value → Shared → Prop) (E : Value → Shared → Prop), items[i]? = some v → P i o → K cs → ρ <+: ρ' → Rep (c.ice I o) ρ' loc cs s →
      (∀ v' o' h' tk, VRep ρ' s.heap v v' → P (i + 1) o' → h'.get? I = some o' → Heap.ExtBut I s.heap h' → Q (some v') { s with heap := h', toks := tk }) → wpAny (MD w) c.A (pyNext (.ref I)) Q E s)
    (fin : ∀ loc cs ρ' s o (Q : Option Value → Shared → Prop) (E : Value → Shared → Prop), P items.length o → K cs → ρ <+: ρ' → Rep (c.ice I o) ρ' loc cs s →
      (∀ h' tk, Heap.ExtBut I s.heap h' → Q none { s with heap := h', toks := tk }) → wpAny (MD w) c.A (pyNext (.ref I)) Q E s)
    (hx : sc.names.lookup x = some .local) (h : Fo k sc x body K items loc cs loc' cs') (h0 : P 0 o) (R : Rep (c.ice I o) ρ loc cs s) :
    codeAny (MD w) c.A (.forLoop (.Name x px) (.ref I) body [] c.env) (fun r s' => r = .ok .next ∧ ∃ ρ', Post c ρ s loc' cs' s' ρ') s := by
  refine hideG fun Gq hGq => ?_
  obtain ⟨Fn, hFn⟩ : ∃ Fn : Shared → Prop, ∀ s', Fn s' ↔ ∃ ρ', Post c ρ s loc' cs' s' ρ' := ⟨_, fun _ => Iff.rfl⟩
  obtain ⟨Iv, hIv⟩ : ∃ Iv : Nat → Shared → Prop, ∀ n s1, Iv n s1 ↔ ∃ ρ1 loc1 cs1 o1 i, n + i = items.length ∧ P i o1 ∧ Fo k sc x body K (items.drop i) loc1 cs1 loc' cs' ∧ ρ <+: ρ1 ∧ TK s.heap s1.heap ∧ Rep (c.ice I o1) ρ1 loc1 cs1 s1 := ⟨_, fun _ _ => Iff.rfl⟩
  refine hGq ?_
  clear hGq Gq
  refine codeAny_mono (R := fun r s' => r = .ok .next ∧ Fn s') ?_ (fun r s' h => ⟨h.1, (hFn s').mp h.2⟩)
  refine codeAny_forLoop Iv ?_ items.length ((hIv _ _).mpr ⟨ρ, loc, cs, o, 0, by simp, h0, by simpa using h, List.prefix_refl _, TK.refl _, R⟩)
  intro n s1 hI0
  refine hideG fun Gq hGq => ?_
  obtain ⟨ρ1, loc1, cs1, o1, i, hn, hPi, F, hp, htk, R1⟩ := (hIv n s1).mp hI0
  refine hGq ?_
  clear hGq Gq
  by_cases hi : i < items.length
  · rw [List.drop_eq_getElem_cons hi] at F
    cases F with
    | cons hK B F =>
      refine nxt i _ loc1 cs1 ρ1 s1 o1 _ _ (List.getElem?_eq_getElem hi) hPi hK hp R1 fun v' o' h' tk V P' hI hx' => ?_
      refine hideG fun Gq hGq => ?_
      obtain ⟨R2, tk2⟩ := R1.reice (tk := tk) hx' hI (hP _ _ hPi)
      obtain ⟨m, nn, q⟩ := R2.fr
      refine hGq ?_
      clear hGq Gq
      refine wpAny_assign_Name (wpAny_storeName_local (by have := O.kindOf x; rw [this]; exact hx) nn (fun h'' hn' hsb => ?_) O.plainStore)
      have P3 := R2.setLoc (tk := tk + 1) nn q hn' hsb (V.mono (List.prefix_refl _) tk2)
      refine wpAny_mono (B w (c.ice I o') ρ1 _ (O.ice I o') P3.rep) (fun f s3 h => ?_) fun _ _ x => x.elim
      obtain ⟨ρ3, P4, rfl⟩ := h
      refine ⟨n - 1, by lia, (hIv _ _).mpr ⟨ρ3, _, _, o', i + 1, by lia, P', F, hp.trans P4.pre, ((htk.trans tk2).trans P3.tk).trans P4.tk, P4.rep⟩⟩
  · have hi' : i = items.length := by lia
    subst hi'
    rw [List.drop_length] at F
    cases F with
    | nil hK =>
      refine fin loc' cs' ρ1 s1 o1 _ _ hPi hK hp R1 fun h' tk hx' => ?_
      obtain ⟨R2, tk2⟩ := R1.thaw (tk := tk) hx' (hP _ _ hPi)
      exact wpAny_execs_nil ⟨rfl, (hFn _).mpr ⟨ρ1, ⟨hp, htk.trans tk2, R2⟩⟩⟩
end
end
end Mine
namespace Mine
open PySem PySem.W PyProof.Rows PySem.Calls
noncomputable section

noncomputable def glOf (P : Params) (a : Addr) (x : Str) : Option Value := match (Kx P).lookup a with
  | some ⟨_, _, .dict es _, _⟩ => nsFind es x
  | _ => none
theorem ns_glOf {P : Params} {h : Heap} {a : Addr} {m} (K : (Kx P).In h) (n : h.Ns a m) (hs : ((Kx P).lookup a).isSome = true) (x : Str) : m x = glOf P a x := by
  refine hideG fun Gq hGq => ?_
  obtain ⟨o, es, ep, ho, hd, _, q⟩ := n
  obtain ⟨o', e⟩ := Option.isSome_iff_exists.mp hs
  refine hGq ?_
  clear hGq Gq
  have := K _ _ e
  rw [ho] at this; cases this
  unfold glOf
  rw [e, ← q x]
  refine hideG fun Gq hGq => ?_
  obtain ⟨c, d, da, sl⟩ := o
  refine hGq ?_
  clear hGq Gq
  simp only at hd
  subst hd
  rfl
theorem gl_mod {x : Str} {v : Value} (h : ∀ P, glOf P 3 x = some v) : Gl x v := fun w B => .inl (by rw [ns_glOf B.K B.ng rfl]; exact h _)
theorem gl_blt {x : Str} {v : Value} (h : ∀ P, glOf P 3 x = none) (h2 : ∀ P, glOf P 0 x = some v) : Gl x v := fun w B => .inr ⟨by rw [ns_glOf B.K B.ng rfl]; exact h _, by rw [ns_glOf B.K B.nb rfl]; exact h2 _⟩
theorem gl_int {x : Str} {i : Int} (h : ∀ P, ∃ t, glOf P 3 x = some (.int i t)) (w : World) (B : Bs w) : ∃ t, B.mg x = some (.int i t) := let ⟨t, e⟩ := h w.params; ⟨t, by rw [ns_glOf B.K B.ng rfl]; exact e⟩

theorem VRep.args {ρ : List (List Addr)} {h : Heap} {args : List AV} {vs : List Value} (names : List Str) (V : All2 (VRep ρ h) args vs) (hl : names.length = args.length) :
    ∀ x v, (names.zip args).lookup x = some v → ∃ v', (names.zip vs).lookup x = some v' ∧ VRep ρ h v v' := by
  induction V generalizing names with
  | nil => intro x v e; cases names <;> simp at e
  | cons r _ ih =>
    intro x v e
    cases names with
    | nil => simp at e
    | cons n ns =>
      simp only [List.zip_cons_cons, List.lookup_cons] at e ⊢
      by_cases h : (x == n) = true
      · simp only [h] at e ⊢; cases e; exact ⟨_, rfl, r⟩
      · have h' : (x == n) = false := by simpa using h
        simp only [h'] at e ⊢
        exact ih ns (by simpa using hl) x v e

theorem lookup_reverse_nodup {α : Type} : ∀ (l : List (Str × α)) (x : Str), (l.map (·.1)).Nodup → l.reverse.lookup x = l.lookup x := by
  intro l x hn
  induction l with
  | nil => rfl
  | cons p r ih =>
    obtain ⟨y, v⟩ := p
    rw [List.map_cons, List.nodup_cons] at hn
    have key : ∀ (a b : List (Str × α)), (a ++ b).lookup x = (a.lookup x).or (b.lookup x) := by
      intro a b
      induction a with
      | nil => simp
      | cons q a ih =>
        obtain ⟨z, u⟩ := q
        simp only [List.cons_append, List.lookup_cons]
        by_cases h : (x == z) = true
        · simp [h]
        · have h' : (x == z) = false := by simpa using h
          simp only [h', ih]
    rw [List.reverse_cons, key, ih hn.2]
    simp only [List.lookup_cons, List.lookup_nil]
    by_cases h : x = y
    · subst h
      have : r.lookup x = none := by
        rw [List.lookup_eq_none_iff]
        intro p hp
        simp only [ne_eq, bne_iff_ne]
        rintro e
        exact hn.1 (List.mem_map.mpr ⟨p, hp, e.symm⟩)
      simp [this]
    · have h' : (x == y) = false := by simpa using h
      simp [h']

structure Fn (P : Params) (a : Addr) (sc : Scope) (body : List Stmt) (names : List Str) : Prop where
  at_ : ∃ c d sl, (Kx P).lookup a = some ⟨c, d, .func (fdOf P a), sl⟩
  nt : a ∉ tabs
  cd : ∃ cc oc vs t, (fdOf P a).code = .ref cc ∧ cc ∉ tabs ∧ (Kx P).lookup cc = some oc ∧ oc.data = .fields vs ∧ vs[1]? = some (.str (fdOf P a).qualname t)
  bod : (fdOf P a).body = .stmts body
  scp : (fdOf P a).scope = sc
  cell : ∀ x ∈ sc.names, x.2 ≠ .cell
  loc : ∀ x ∈ names, sc.names.lookup x = some .local
  co : sc.isCoroutine = false
  gen : sc.isGenerator = false
  kind : sc.kind = .function
  glob : (fdOf P a).globals = mainGlobals
  blt : (fdOf P a).builtins = builtinsNs
  nd : names.Nodup
  bind : ∀ (s : Shared), (∀ b o, (Kx P).lookup b = some o → b ∉ tabs → s.heap.get? b = some o) → ∀ vs : List Value, vs.length = names.length → BindsTo s (fdOf P a) ⟨vs, []⟩ (names.zip vs)

theorem pureB {P : Params} {a : Addr} {names : List Str} (h : ∀ vs : List Value, vs.length = names.length → bindArgs (fdOf P a) ⟨vs, []⟩ = pure (names.zip vs)) (s : Shared) (_ : ∀ b o, (Kx P).lookup b = some o → b ∉ tabs → s.heap.get? b = some o) (vs : List Value) (hl : vs.length = names.length) :
    BindsTo s (fdOf P a) ⟨vs, []⟩ (names.zip vs) := BindsTo.of_eq (h vs hl)

noncomputable def Cx.callee {w : World} (c : Cx w) (a L : Addr) (loc : Locs) : Cx w where
  B := c.B
  A := c.A.deeper (callEnv (fdOf w.params a) L a)
  fd := fdOf w.params a
  a := a
  L := L
  fs := (c.L, loc) :: c.fs
  fz := c.fz
  outer := c.env :: c.outer

theorem Cx.OK.callee {w : World} {c : Cx w} {k : Nat} {sc sc' : Scope} {a L : Addr} {loc : Locs} {body names} (O : c.OK (k + 1) sc) (F : Fn w.params a sc' body names) : (c.callee a L loc).OK k sc' where
  hsc := F.scp
  kind := F.kind
  glob := F.glob
  blt := F.blt
  hd := O.hd
  fr := by
    show (c.A.frames.map _) = _
    rw [O.fr]; rfl
  depth := by have := O.depth; show c.A.depth + 1 + k ≤ 800; lia
  units := by have := O.units; show c.A.units + 3 + 20 * k ≤ 9000; lia
  out := by
    intro e he
    rcases List.mem_cons.mp he with rfl | he
    · exact ⟨O.skind, (c.L, loc), .head _, rfl⟩
    · obtain ⟨h1, p, hp, h2⟩ := O.out e he
      exact ⟨h1, p, List.mem_cons_of_mem _ hp, h2⟩

theorem Rep.enter {w : World} {c : Cx w} {ρ loc cs s} (R : Rep c ρ loc cs s) {a : Addr} {h0 : Heap} {tk : Tok} {loc0 : Locs} {m} (hn : h0.Ns s.heap.objs.size m) (hk : ∀ b o, s.heap.get? b = some o → h0.get? b = some o)
    (hl : ∀ x v, loc0.lookup x = some v → ∃ v', m x = some v' ∧ VRep ρ s.heap v v') : Rep (c.callee a s.heap.objs.size loc) ρ loc0 cs { s with heap := h0, toks := tk } := by
  have R' := R.heap (h' := h0) (tk := tk) hk
  have tk0 := TK.of_keeps hk
  refine ⟨R'.stat, ⟨m, hn, fun x v e => let ⟨v', e1, e2⟩ := hl x v e; ⟨v', e1, e2.mono (List.prefix_refl _) tk0⟩⟩, ?_, R'.frz, R'.len, R'.cells, ?_, ?_⟩
  · intro p hp
    rcases List.mem_cons.mp hp with rfl | hp
    · exact R'.fr
    · exact R'.frs p hp
  · refine List.nodup_cons.mpr ⟨fun hm => Nat.lt_irrefl _ (R.owned _ hm), R.apart⟩
  · intro b hb
    rcases List.mem_cons.mp hb with rfl | hb
    · exact R.stat.new (Nat.le_refl _)
    · exact R.fresh b hb

theorem Post.leave {w : World} {c : Cx w} {ρ loc s0 s loc' cs' s' ρ' a L} (hk : TK s.heap s0.heap) (P : Post (c.callee a L loc) ρ s0 loc' cs' s' ρ') : Post c ρ s loc cs' s' ρ' := by
  refine ⟨P.pre, hk.trans P.tk, ?_⟩
  have R := P.rep
  exact ⟨R.stat, R.frs (c.L, loc) (.head _), fun p hp => R.frs p (List.mem_cons_of_mem _ hp), R.frz, R.len, R.cells, (List.nodup_cons.mp R.apart).2, fun b hb => R.fresh b (List.mem_cons_of_mem _ hb)⟩

noncomputable def AF.val : AF → AV
  | .next => .none
  | .ret v => v

theorem cl_fn {k : Nat} {cs : List AC} {a : Addr} {args : List AV} {f : AF} {loc' : Locs} {cs' : List AC} {sc : Scope} {body : List Stmt} {names : List Str} (F : ∀ P, Fn P a sc body names) (hl : names.length = args.length)
    (h : Exs k sc (names.zip args) cs body f loc' cs') : Cl (k + 1) cs (.ref a) args f.val cs' := by
  intro w c ρ loc s vs scc O R V
  have FP := F w.params
  refine hideG fun Gq hGq => ?_
  obtain ⟨oc, od, osl, hat⟩ := FP.at_
  obtain ⟨cc, ocd, cvs, t, hcode, hct, hcl, hcd, hc1⟩ := FP.cd
  refine hGq ?_
  clear hGq Gq
  have hlen : vs.length = names.length := by rw [hl, V.length]
  refine wpAny_call (codeAny_call_def (binds := names.zip vs) (by have := O.depth; have e : recursionLimit = 1000 := rfl; lia) (R.stat.keep _ _ (c.B.K _ _ hat) FP.nt) rfl R.stat.lim
    ⟨cc, ocd, cvs, t, hcode, R.stat.keep _ _ (c.B.K _ _ hcl) hct, hcd, hc1⟩ FP.bod (FP.bind s (fun b o e n => R.stat.keep _ _ (c.B.K _ _ e) n) vs hlen) (by rw [FP.scp]; exact FP.cell) ?_ ?_ (by rw [FP.scp]; exact FP.co) (by rw [FP.scp]; exact FP.gen) (by rw [FP.scp]; exact FP.kind))
  · intro x hx
    rw [FP.scp]
    exact FP.loc _ (List.of_mem_zip hx).1
  · intro h0 hns hk
    have R0 := R.enter (a := a) (tk := s.toks + (names.zip vs).length) hns hk (loc0 := names.zip args) (by
      intro x v e
      have := VRep.args names V hl x v e
      rw [lookup_reverse_nodup _ _ (by rw [List.map_fst_zip (by lia)]; exact FP.nd)]
      exact this)
    refine wpAny_mono (h w _ ρ _ (O.callee FP) R0) (fun f' s' hq => ?_) fun _ _ x => x.elim
    obtain ⟨ρ', P, q⟩ := hq
    refine ⟨ρ', P.leave (TK.of_keeps hk), ?_⟩
    cases f with
    | next => cases q; rfl
    | ret v => obtain ⟨v', rfl, q⟩ := q; exact q

theorem take_flatten_sublist {α : Type} (l : List (List α)) (n : Nat) : List.Sublist (l.take n).flatten l.flatten := by
  conv => rhs; rw [← List.take_append_drop n l]
  rw [List.flatten_append]
  exact List.sublist_append_left _ _
theorem Rep.cut {w : World} {c : Cx w} {ρ loc cs s} (R : Rep c ρ loc cs s) (n : Nat) (hc : ∀ ac ∈ cs.take n, Closed n ac) (hloc : ∀ m, s.heap.Ns c.L m → ∀ x v v', loc.lookup x = some v → m x = some v' → VRep ρ s.heap v v' → VRep (ρ.take n) s.heap v v')
    (hfs : ∀ p ∈ c.fs, FrameAt (ρ.take n) s.heap p.1 p.2) : Rep c (ρ.take n) loc (cs.take n) s := by
  have sub : List.Sublist (c.L :: (c.own ++ (ρ.take n).flatten)) (c.L :: (c.own ++ ρ.flatten)) := List.Sublist.cons_cons _ (List.Sublist.append (List.Sublist.refl _) (take_flatten_sublist _ _))
  refine ⟨R.stat, ?_, hfs, R.frz, by simp [R.len], ?_, List.Sublist.nodup sub R.apart, fun a ha => R.fresh a (sub.subset ha)⟩
  · obtain ⟨m, hn, q⟩ := R.fr
    refine ⟨m, hn, fun x v e => ?_⟩
    obtain ⟨v', e1, e2⟩ := q x v e
    exact ⟨v', e1, hloc m hn x v v' e e1 e2⟩
  · intro i ac as hi ha
    have hin : i < n := by
      have := (List.getElem?_eq_some_iff.mp hi).1
      rw [List.length_take] at this; lia
    have hm := List.mem_of_getElem? hi
    rw [List.getElem?_take_of_lt hin] at hi ha
    exact (R.cells i ac as hi ha).shrink (hc _ hm)
theorem VRep.cut {ρ : List (List Addr)} {h : Heap} {v : AV} {v' : Value} {n : Nat} (x : VRep ρ h v v') (hn : ∀ i, v = .obj i → i < n) : VRep (ρ.take n) h v v' := by
  cases v <;> simp only [VRep] at x ⊢ <;> try exact x
  refine hideG fun Gq hGq => ?_
  obtain ⟨a, r, e, q⟩ := x
  refine hGq ?_
  clear hGq Gq
  exact ⟨a, r, by rw [List.getElem?_take_of_lt (hn _ rfl)]; exact e, q⟩
theorem VRep.idlt {ρ : List (List Addr)} {h : Heap} {v : AV} {v' : Value} (x : VRep ρ h v v') : ∀ i, v = .obj i → i < ρ.length := by
  rintro i rfl
  refine hideG fun Gq hGq => ?_
  obtain ⟨a, r, e, q⟩ := x
  refine hGq ?_
  clear hGq Gq
  exact (List.getElem?_eq_some_iff.mp e).1
theorem FrameAt.cut {ρ ρ' : List (List Addr)} {h h' : Heap} {L : Addr} {loc : Locs} {n : Nat} (x : FrameAt ρ' h' L loc) (x0 : FrameAt ρ h L loc) (hn : ρ.length ≤ n) : FrameAt (ρ'.take n) h' L loc := by
  refine hideG fun Gq hGq => ?_
  obtain ⟨m, ns, q⟩ := x
  obtain ⟨m0, _, q0⟩ := x0
  refine hGq ?_
  clear hGq Gq
  refine ⟨m, ns, fun y v e => ?_⟩
  refine hideG fun Gq hGq => ?_
  obtain ⟨v', e1, e2⟩ := q y v e
  obtain ⟨v0, _, e3⟩ := q0 y v e
  refine hGq ?_
  clear hGq Gq
  exact ⟨v', e1, e2.cut fun i hi => Nat.lt_of_lt_of_le (e3.idlt i hi) hn⟩
theorem Post.cut {w : World} {c : Cx w} {ρ loc cs s cs' s' ρ'} (R : Rep c ρ loc cs s) (P : Post c ρ s loc cs' s' ρ') (n : Nat) (hn : cs.length ≤ n) (hc : ∀ ac ∈ cs'.take n, Closed n ac) : Post c ρ s loc (cs'.take n) s' (ρ'.take n) := by
  have hρ : ρ.length ≤ n := by rw [R.len]; exact hn
  refine ⟨?_, P.tk, P.rep.cut n hc (fun m hm x v v' e _ q => q.cut fun i hi => ?_) fun p hp => (P.rep.frs p hp).cut (R.frs p hp) hρ⟩
  · obtain ⟨t, rfl⟩ := P.pre
    rw [List.take_append]
    refine ⟨List.take (n - ρ.length) t, ?_⟩
    rw [List.take_of_length_le hρ]
  · obtain ⟨m0, _, q0⟩ := R.fr
    obtain ⟨v0, _, e3⟩ := q0 x v e
    exact Nat.lt_of_lt_of_le (e3.idlt i hi) hρ

theorem cl_cut {k : Nat} {cs : List AC} {f : Value} {args : List AV} {v : AV} {cs' : List AC} (n : Nat) (h : Cl k cs f args v cs') (hn : cs.length ≤ n) (hc : ∀ ac ∈ cs'.take n, Closed n ac) (hv : ∀ i, v = .obj i → i < n) : Cl k cs f args v (cs'.take n) := by
  intro w c ρ loc s vs sc O R V
  refine wpAny_mono (h w c ρ loc s vs sc O R V) (fun v' s' hq => ?_) fun _ _ x => x
  obtain ⟨ρ', P, q⟩ := hq
  exact ⟨ρ'.take n, P.cut R n hn hc, q.cut hv⟩

noncomputable def Callee : Value → Prop
  | .builtin _ => True
  | .type _ => True
  | .ref a => ∀ P, ∃ c d fd sl, (Kx P).lookup a = some ⟨c, d, .func fd, sl⟩ ∧ a ∉ tabs
  | _ => False

theorem wpAny_callArgs {M : Model} {A : Around} {E : Value → Shared → Prop} {s : Shared} {f : Value} {pos : Pos} {env : Env} {args : List Expr} {Q : Args → Shared → Prop}
    (h : wpAny M A (spliced (backTo pos (starEach args env))) (fun vs s' => Q ⟨vs, []⟩ s') E s) (he : starEach args env = args.map fun e => (false, eval e env)) : wpAny M A (evalArgs f true (backTo pos (starEach args env)) []) Q E s := by
  rw [he] at h ⊢
  cases args with
  | nil =>
    unfold evalArgs
    show wpAny M A (spliced [] >>= _) Q E s
    refine wpAny_bind (wpAny_mono h (fun vs s' h' => ?_) fun _ _ x => x)
    exact wpAny_bind (wpAny_pure (wpAny_holding (wpAny_bind (wpAny_pure (wpAny_bind (wpAny_pure (wpAny_pure h')))))))
  | cons e rest => exact evalArgs_plain h
theorem backTo_plain (pos : Pos) (env : Env) (args : List Expr) (he : starEach args env = args.map fun e => (false, eval e env)) : (backTo pos (starEach args env)).any (·.1) = false := by
  rw [he]
  clear he
  induction args with
  | nil => rfl
  | cons e r ih => exact ih

theorem ev_call {k : Nat} {sc : Scope} {loc : Locs} {cs : List AC} {x : Str} {p pos : Pos} {args : List Expr} {f : Value} {avs : List AV} {v cs1 cs2} (hf : Ev k sc loc cs (.Name x p) (.stat f) cs) (ha : EvL k sc loc cs args avs cs1)
    (hc : Cl k cs1 f avs v cs2) (hcal : Callee f) (he : ∀ env, starEach args env = args.map fun e => (false, eval e env)) : Ev k sc loc cs (.Call (.Name x p) args [] pos) v cs2 := by
  intro w c ρ s O R
  refine wpAny_Call_NameR (wpAny_mono (hf w c ρ s O R) (fun f' s1 h => ?_) fun _ _ x => x.elim)
  obtain ⟨ρ1, P1, rfl⟩ := h
  have body : wpAny (MD w) c.A (spliced (backTo pos (starEach args c.env))) (fun vs s' => ∃ ρ2, Post c ρ1 s1 loc cs1 s' ρ2 ∧ All2 (VRep ρ2 s'.heap) avs vs) (fun _ _ => False) s1 := ha w c ρ1 s1 pos O P1.rep
  have fin : ∀ (vs : List Value) (s2 : Shared) ρ2, Post c ρ1 s1 loc cs1 s2 ρ2 → All2 (VRep ρ2 s2.heap) avs vs → wpAny (MD w) c.A (call f' ([] ++ vs)) (fun v' s' => ∃ ρ', Post c ρ s loc cs2 s' ρ' ∧ VRep ρ' s'.heap v v') (fun _ _ => False) s2 := by
    intro vs s2 ρ2 P2 V2
    refine wpAny_mono (hc w c ρ2 loc s2 vs sc O P2.rep V2) (fun v' s3 h => ?_) fun _ _ x => x
    obtain ⟨ρ3, P3, V3⟩ := h
    exact ⟨ρ3, (P1.trans P2).trans P3, V3⟩
  cases f' with
  | builtin id => exact callWith_builtin (backTo_plain _ _ _ (he _)) (wpAny_callArgs (wpAny_mono body (fun vs s2 ⟨ρ2, P2, V2⟩ => fin vs s2 ρ2 P2 V2) fun _ _ x => x) (he _))
  | type T => exact PySem.callWith_type (backTo_plain _ _ _ (he _)) (wpAny_callArgs (wpAny_mono body (fun vs s2 ⟨ρ2, P2, V2⟩ => fin vs s2 ρ2 P2 V2) fun _ _ x => x) (he _))
  | ref a =>
    refine hideG fun Gq hGq => ?_
    obtain ⟨oc, od, fd, sl, hat, hnt⟩ := hcal w.params
    refine hGq ?_
    clear hGq Gq
    refine callWith_function (o := ⟨oc, od, .func fd, sl⟩) (fd := fd) (wpAny_callArgs (wpAny_mono body (fun vs s2 ⟨ρ2, P2, V2⟩ => ⟨⟨P2.rep.stat.keep _ _ (c.B.K _ _ hat) hnt, rfl⟩, fin vs s2 ρ2 P2 V2⟩) fun _ _ x => x) (he _))
  | _ => exact hcal.elim
end
end Mine
namespace Mine
open PySem PySem.W PyProof.Rows
noncomputable section
noncomputable def P0 : Params := { strHash := fun _ => 0, shareClass := fun _ => 0, mergeTok := id, idOf := fun _ => 0, idOfShared := fun _ _ => 0, followText := fun _ => false, idOfImm := fun _ => 0 }
noncomputable def scA (a : Addr) : Scope := (fdOf P0 a).scope
noncomputable def bodyA (a : Addr) : List Stmt := fbody (fdOf P0 a)
theorem len0 {C : List Value → Prop} (h : C []) : ∀ vs : List Value, vs.length = 0 → C vs
  | [], _ => h
theorem lenS {n : Nat} {C : List Value → Prop} (h : ∀ v r, r.length = n → C (v :: r)) : ∀ vs : List Value, vs.length = n + 1 → C vs
  | v :: r, e => h v r (Nat.succ.inj e)
theorem len1 {C : List Value → Prop} (h : ∀ a, C [a]) : ∀ vs : List Value, vs.length = 1 → C vs := lenS fun a => len0 (h a)
theorem len2 {C : List Value → Prop} (h : ∀ a b, C [a, b]) : ∀ vs : List Value, vs.length = 2 → C vs := lenS fun a => len1 (C := fun r => C (a :: r)) (h a)
theorem len3 {C : List Value → Prop} (h : ∀ a b c, C [a, b, c]) : ∀ vs : List Value, vs.length = 3 → C vs := lenS fun a => len2 (C := fun r => C (a :: r)) (h a)
theorem len4 {C : List Value → Prop} (h : ∀ a b c d, C [a, b, c, d]) : ∀ vs : List Value, vs.length = 4 → C vs := lenS fun a => len3 (C := fun r => C (a :: r)) (h a)
theorem len5 {C : List Value → Prop} (h : ∀ a b c d e, C [a, b, c, d, e]) : ∀ vs : List Value, vs.length = 5 → C vs := lenS fun a => len4 (C := fun r => C (a :: r)) (h a)
theorem fn204 (P) : Fn P 204 (scA 204) (bodyA 204) ["c"] := by
  refine ⟨⟨_, _, _, rfl⟩, by decide, ⟨_, _, _, _, rfl, by decide, rfl, rfl, rfl⟩, rfl, rfl, by decide, by decide, rfl, rfl, rfl, rfl, rfl, by decide, pureB (len1 (fun v0 => by kernel_rfl))⟩
theorem cal204 : Callee (.ref 204) := fun P => ⟨_, _, _, _, rfl, by decide⟩
theorem fn211 (P) : Fn P 211 (scA 211) (bodyA 211) ["c"] := by
  refine ⟨⟨_, _, _, rfl⟩, by decide, ⟨_, _, _, _, rfl, by decide, rfl, rfl, rfl⟩, rfl, rfl, by decide, by decide, rfl, rfl, rfl, rfl, rfl, by decide, pureB (len1 (fun v0 => by kernel_rfl))⟩
theorem cal211 : Callee (.ref 211) := fun P => ⟨_, _, _, _, rfl, by decide⟩
theorem fn218 (P) : Fn P 218 (scA 218) (bodyA 218) ["c"] := by
  refine ⟨⟨_, _, _, rfl⟩, by decide, ⟨_, _, _, _, rfl, by decide, rfl, rfl, rfl⟩, rfl, rfl, by decide, by decide, rfl, rfl, rfl, rfl, rfl, by decide, pureB (len1 (fun v0 => by kernel_rfl))⟩
theorem cal218 : Callee (.ref 218) := fun P => ⟨_, _, _, _, rfl, by decide⟩
theorem fn225 (P) : Fn P 225 (scA 225) (bodyA 225) ["c"] := by
  refine ⟨⟨_, _, _, rfl⟩, by decide, ⟨_, _, _, _, rfl, by decide, rfl, rfl, rfl⟩, rfl, rfl, by decide, by decide, rfl, rfl, rfl, rfl, rfl, by decide, pureB (len1 (fun v0 => by kernel_rfl))⟩
theorem cal225 : Callee (.ref 225) := fun P => ⟨_, _, _, _, rfl, by decide⟩
theorem fn232 (P) : Fn P 232 (scA 232) (bodyA 232) ["c"] := by
  refine ⟨⟨_, _, _, rfl⟩, by decide, ⟨_, _, _, _, rfl, by decide, rfl, rfl, rfl⟩, rfl, rfl, by decide, by decide, rfl, rfl, rfl, rfl, rfl, by decide, pureB (len1 (fun v0 => by kernel_rfl))⟩
theorem cal232 : Callee (.ref 232) := fun P => ⟨_, _, _, _, rfl, by decide⟩
theorem fn239 (P) : Fn P 239 (scA 239) (bodyA 239) ["code"] := by
  refine ⟨⟨_, _, _, rfl⟩, by decide, ⟨_, _, _, _, rfl, by decide, rfl, rfl, rfl⟩, rfl, rfl, by decide, by decide, rfl, rfl, rfl, rfl, rfl, by decide, pureB (len1 (fun v0 => by kernel_rfl))⟩
theorem cal239 : Callee (.ref 239) := fun P => ⟨_, _, _, _, rfl, by decide⟩
theorem fn246 (P) : Fn P 246 (scA 246) (bodyA 246) ["text", "rooms"] := by
  refine ⟨⟨_, _, _, rfl⟩, by decide, ⟨_, _, _, _, rfl, by decide, rfl, rfl, rfl⟩, rfl, rfl, by decide, by decide, rfl, rfl, rfl, rfl, rfl, by decide, pureB (len2 (fun v0 v1 => by kernel_rfl))⟩
theorem cal246 : Callee (.ref 246) := fun P => ⟨_, _, _, _, rfl, by decide⟩
theorem fn260 (P) : Fn P 260 (scA 260) (bodyA 260) ["numbers"] := by
  refine ⟨⟨_, _, _, rfl⟩, by decide, ⟨_, _, _, _, rfl, by decide, rfl, rfl, rfl⟩, rfl, rfl, by decide, by decide, rfl, rfl, rfl, rfl, rfl, by decide, pureB (len1 (fun v0 => by kernel_rfl))⟩
theorem cal260 : Callee (.ref 260) := fun P => ⟨_, _, _, _, rfl, by decide⟩
theorem fn267 (P) : Fn P 267 (scA 267) (bodyA 267) ["shown", "owner", "begin", "end"] := by
  refine ⟨⟨_, _, _, rfl⟩, by decide, ⟨_, _, _, _, rfl, by decide, rfl, rfl, rfl⟩, rfl, rfl, by decide, by decide, rfl, rfl, rfl, rfl, rfl, by decide, pureB (len4 (fun v0 v1 v2 v3 => by kernel_rfl))⟩
theorem cal267 : Callee (.ref 267) := fun P => ⟨_, _, _, _, rfl, by decide⟩
theorem fn279 (P) : Fn P 279 (scA 279) (bodyA 279) ["row"] := by
  refine ⟨⟨_, _, _, rfl⟩, by decide, ⟨_, _, _, _, rfl, by decide, rfl, rfl, rfl⟩, rfl, rfl, by decide, by decide, rfl, rfl, rfl, rfl, rfl, by decide, pureB (len1 (fun v0 => by kernel_rfl))⟩
theorem cal279 : Callee (.ref 279) := fun P => ⟨_, _, _, _, rfl, by decide⟩
theorem fn50 (P) : Fn P 50 (scA 50) (bodyA 50) ["self", "headerlen", "maxlen", "continuation_ws", "splitchars"] := by
  refine ⟨⟨_, _, _, rfl⟩, by decide, ⟨_, _, _, _, rfl, by decide, rfl, rfl, rfl⟩, rfl, rfl, by decide, by decide, rfl, rfl, rfl, rfl, rfl, by decide, pureB (len5 (fun v0 v1 v2 v3 v4 => by kernel_rfl))⟩
theorem cal50 : Callee (.ref 50) := fun P => ⟨_, _, _, _, rfl, by decide⟩
theorem fn57 (P) : Fn P 57 (scA 57) (bodyA 57) ["self", "linesep"] := by
  refine ⟨⟨_, _, _, rfl⟩, by decide, ⟨_, _, _, _, rfl, by decide, rfl, rfl, rfl⟩, rfl, rfl, by decide, by decide, rfl, rfl, rfl, rfl, rfl, by decide, pureB (len2 (fun v0 v1 => by kernel_rfl))⟩
theorem cal57 : Callee (.ref 57) := fun P => ⟨_, _, _, _, rfl, by decide⟩
theorem fn71 (P) : Fn P 71 (scA 71) (bodyA 71) ["self"] := by
  refine ⟨⟨_, _, _, rfl⟩, by decide, ⟨_, _, _, _, rfl, by decide, rfl, rfl, rfl⟩, rfl, rfl, by decide, by decide, rfl, rfl, rfl, rfl, rfl, by decide, pureB (len1 (fun v0 => by kernel_rfl))⟩
theorem cal71 : Callee (.ref 71) := fun P => ⟨_, _, _, _, rfl, by decide⟩
theorem fn78 (P) : Fn P 78 (scA 78) (bodyA 78) ["self"] := by
  refine ⟨⟨_, _, _, rfl⟩, by decide, ⟨_, _, _, _, rfl, by decide, rfl, rfl, rfl⟩, rfl, rfl, by decide, by decide, rfl, rfl, rfl, rfl, rfl, by decide, pureB (len1 (fun v0 => by kernel_rfl))⟩
theorem cal78 : Callee (.ref 78) := fun P => ⟨_, _, _, _, rfl, by decide⟩
theorem fn85 (P) : Fn P 85 (scA 85) (bodyA 85) ["self", "fws", "string", "charset"] := by
  refine ⟨⟨_, _, _, rfl⟩, by decide, ⟨_, _, _, _, rfl, by decide, rfl, rfl, rfl⟩, rfl, rfl, by decide, by decide, rfl, rfl, rfl, rfl, rfl, by decide, pureB (len4 (fun v0 v1 v2 v3 => by kernel_rfl))⟩
theorem cal85 : Callee (.ref 85) := fun P => ⟨_, _, _, _, rfl, by decide⟩
theorem fn106 (P) : Fn P 106 (scA 106) (bodyA 106) ["self", "fws", "string"] := by
  refine ⟨⟨_, _, _, rfl⟩, by decide, ⟨_, _, _, _, rfl, by decide, rfl, rfl, rfl⟩, rfl, rfl, by decide, by decide, rfl, rfl, rfl, rfl, rfl, by decide, pureB (len3 (fun v0 v1 v2 => by kernel_rfl))⟩
theorem cal106 : Callee (.ref 106) := fun P => ⟨_, _, _, _, rfl, by decide⟩
theorem fn137 (P) : Fn P 137 (scA 137) (bodyA 137) ["self", "fws", "string"] := by
  refine ⟨⟨_, _, _, rfl⟩, by decide, ⟨_, _, _, _, rfl, by decide, rfl, rfl, rfl⟩, rfl, rfl, by decide, by decide, rfl, rfl, rfl, rfl, rfl, by decide, pureB (len3 (fun v0 v1 v2 => by kernel_rfl))⟩
theorem cal137 : Callee (.ref 137) := fun P => ⟨_, _, _, _, rfl, by decide⟩
theorem fn160 (P) : Fn P 160 (scA 160) (bodyA 160) ["self"] := by
  refine ⟨⟨_, _, _, rfl⟩, by decide, ⟨_, _, _, _, rfl, by decide, rfl, rfl, rfl⟩, rfl, rfl, by decide, by decide, rfl, rfl, rfl, rfl, rfl, by decide, pureB (len1 (fun v0 => by kernel_rfl))⟩
theorem cal160 : Callee (.ref 160) := fun P => ⟨_, _, _, _, rfl, by decide⟩
theorem fn167 (P) : Fn P 167 (scA 167) (bodyA 167) ["self"] := by
  refine ⟨⟨_, _, _, rfl⟩, by decide, ⟨_, _, _, _, rfl, by decide, rfl, rfl, rfl⟩, rfl, rfl, by decide, by decide, rfl, rfl, rfl, rfl, rfl, by decide, pureB (len1 (fun v0 => by kernel_rfl))⟩
theorem cal167 : Callee (.ref 167) := fun P => ⟨_, _, _, _, rfl, by decide⟩
theorem fn182 (P) : Fn P 182 (scA 182) (bodyA 182) ["self"] := by
  refine ⟨⟨_, _, _, rfl⟩, by decide, ⟨_, _, _, _, rfl, by decide, rfl, rfl, rfl⟩, rfl, rfl, by decide, by decide, rfl, rfl, rfl, rfl, rfl, by decide, pureB (len1 (fun v0 => by kernel_rfl))⟩
theorem cal182 : Callee (.ref 182) := fun P => ⟨_, _, _, _, rfl, by decide⟩
theorem gl_ctoi : Gl "_ctoi" (.ref 204) := gl_mod (by intro P; kernel_rfl)
theorem glisprint : Gl "isprint" (.ref 211) := gl_mod (by intro P; kernel_rfl)
theorem glctrl : Gl "ctrl" (.ref 218) := gl_mod (by intro P; kernel_rfl)
theorem glalt : Gl "alt" (.ref 225) := gl_mod (by intro P; kernel_rfl)
theorem glunctrl : Gl "unctrl" (.ref 232) := gl_mod (by intro P; kernel_rfl)
theorem gl_law_shown : Gl "_law_shown" (.ref 239) := gl_mod (by intro P; kernel_rfl)
theorem gl_law_words : Gl "_law_words" (.ref 246) := gl_mod (by intro P; kernel_rfl)
theorem gl_law_coder : Gl "_law_coder" (.ref 253) := gl_mod (by intro P; kernel_rfl)
theorem gl_law_messages : Gl "_law_messages" (.ref 260) := gl_mod (by intro P; kernel_rfl)
theorem gl_law_row : Gl "_law_row" (.ref 267) := gl_mod (by intro P; kernel_rfl)
theorem gl_law_due : Gl "_law_due" (.ref 272) := gl_mod (by intro P; kernel_rfl)
theorem gl_law_read : Gl "_law_read" (.ref 279) := gl_mod (by intro P; kernel_rfl)
theorem gl_ValueFormatter : Gl "_ValueFormatter" (.ref 109) := gl_mod (by intro P; kernel_rfl)
theorem gl_Accumulator : Gl "_Accumulator" (.ref 193) := gl_mod (by intro P; kernel_rfl)
theorem gl_isinstance : Gl "isinstance" (.builtin "isinstance") := gl_blt (by intro P; kernel_rfl) (by intro P; kernel_rfl)
theorem gl_ord : Gl "ord" (.builtin "ord") := gl_blt (by intro P; kernel_rfl) (by intro P; kernel_rfl)
theorem gl_chr : Gl "chr" (.builtin "chr") := gl_blt (by intro P; kernel_rfl) (by intro P; kernel_rfl)
theorem gl_len : Gl "len" (.builtin "len") := gl_blt (by intro P; kernel_rfl) (by intro P; kernel_rfl)
theorem gl_next : Gl "next" (.builtin "next") := gl_blt (by intro P; kernel_rfl) (by intro P; kernel_rfl)
theorem gl_sum : Gl "sum" (.builtin "sum") := gl_blt (by intro P; kernel_rfl) (by intro P; kernel_rfl)
theorem glT_super : Gl "super" (.type "super") := gl_blt (by intro P; kernel_rfl) (by intro P; kernel_rfl)
theorem glT_str : Gl "str" (.type "str") := gl_blt (by intro P; kernel_rfl) (by intro P; kernel_rfl)
theorem glT_range : Gl "range" (.type "range") := gl_blt (by intro P; kernel_rfl) (by intro P; kernel_rfl)
theorem glT_int : Gl "int" (.type "int") := gl_blt (by intro P; kernel_rfl) (by intro P; kernel_rfl)
theorem glT_list : Gl "list" (.type "list") := gl_blt (by intro P; kernel_rfl) (by intro P; kernel_rfl)
theorem gl_DEL (w : World) (B : Bs w) : ∃ t, B.mg "DEL" = some (.int 127 t) := gl_int (fun P => ⟨_, rfl⟩) w B
end
end Mine
namespace Mine
open PySem PySem.W PyProof.Rows PySem.Calls
noncomputable section

section
variable {k : Nat} {sc : Scope} {loc : Locs} {cs : List AC}

noncomputable def PureCl (f : Value) (args : List AV) (v : AV) : Prop := ∀ (w : World) (A : Around) ρ (s : Shared) vs (Q : Value → Shared → Prop) (E : Value → Shared → Prop), All2 (VRep ρ s.heap) args vs →
  (∀ v' tk, VRep ρ s.heap v v' → Q v' { s with toks := tk }) → wpAny (MD w) A (call f vs) Q E s
theorem PureCl.cl {f args v} (h : PureCl f args v) : Cl k cs f args v cs := fun w c ρ loc s vs sc O R V => h w c.A ρ s vs _ _ V fun v' tk q => ⟨ρ, .tok R tk, q⟩
theorem All2.one {α β : Type} {R : α → β → Prop} {a : α} {m : List β} (x : All2 R [a] m) : ∃ b, m = [b] ∧ R a b := by
  cases x with | cons h t => cases t; exact ⟨_, rfl, h⟩
theorem All2.two {α β : Type} {R : α → β → Prop} {a a' : α} {m : List β} (x : All2 R [a, a'] m) : ∃ b b', m = [b, b'] ∧ R a b ∧ R a' b' := by
  cases x with | cons h t => cases t with | cons h' t' => cases t'; exact ⟨_, _, rfl, h, h'⟩

theorem pcl_lenS (x : Str) (hx : x.length ≤ 100000) : PureCl (.builtin "len") [.str x] (.int x.length) := fun w A ρ s vs Q E V q => by
  obtain ⟨_, rfl, t, rfl⟩ := V.one
  exact PySem.P.len_str (by lia) (q _ _ ⟨_, rfl⟩)
theorem pcl_ord (x : Nat) : PureCl (.builtin "ord") [.str ⟨#[x]⟩] (.int x) := fun w A ρ s vs Q E V q => by
  obtain ⟨_, rfl, t, rfl⟩ := V.one
  exact PySem.P.ord_of_char (q _ _ ⟨_, rfl⟩)
theorem pcl_chr (i : Int) (h0 : 0 ≤ i) (h1 : i ≤ 1114111) : PureCl (.builtin "chr") [.int i] (.str ⟨#[i.toNat]⟩) := fun w A ρ s vs Q E V q => by
  obtain ⟨_, rfl, t, rfl⟩ := V.one
  exact chr_of_range h0 h1 (q _ _ ⟨_, rfl⟩)
theorem pcl_isiS (x : Str) : PureCl (.builtin "isinstance") [.str x, .stat (.type "str")] (.bool true) := fun w A ρ s vs Q E V q => by
  obtain ⟨_, _, rfl, ⟨t, rfl⟩, rfl⟩ := V.two
  exact PySem.IsiPair.str_str (q _ _ rfl)
theorem pcl_isiI (i : Int) : PureCl (.builtin "isinstance") [.int i, .stat (.type "str")] (.bool false) := fun w A ρ s vs Q E V q => by
  obtain ⟨_, _, rfl, ⟨t, rfl⟩, rfl⟩ := V.two
  exact PySem.IsiPair.int_str (q _ _ rfl)

theorem Rep.intL {w : World} {c : Cx w} {ρ s} {i : Nat} {l : List Int} {a : Addr} {r : List Addr} (R : Rep c ρ loc cs s) (hc : cs[i]? = some (.intL l)) (ha : ρ[i]? = some (a :: r)) : ∃ vs, s.heap.PlainList a vs.toArray ∧ IntsAre vs l ∧ r = [] := by
  obtain ⟨a', vs, e, x, y⟩ := R.cells i _ _ hc ha
  cases e; exact ⟨vs, x, y, rfl⟩
theorem Rep.strL {w : World} {c : Cx w} {ρ s} {i : Nat} {l : List (Option Str)} {a : Addr} {r : List Addr} (R : Rep c ρ loc cs s) (hc : cs[i]? = some (.strL l)) (ha : ρ[i]? = some (a :: r)) : ∃ vs, s.heap.PlainList a vs.toArray ∧ OStrsAre vs l ∧ r = [] := by
  obtain ⟨a', vs, e, x, y⟩ := R.cells i _ _ hc ha
  cases e; exact ⟨vs, x, y, rfl⟩
theorem OStrsAre.length {vs l} (x : OStrsAre vs l) : vs.length = l.length := by
  induction x with
  | nil => rfl
  | some _ _ _ ih => simp [ih]
  | none _ ih => simp [ih]

theorem cl_lenIL {i : Nat} {l : List Int} (hc : cs[i]? = some (.intL l)) (hl : l.length ≤ 100000) : Cl k cs (.builtin "len") [.obj i] (.int l.length) cs := by
  intro w c ρ loc s vs sc O R V
  obtain ⟨_, rfl, a, r, ha, rfl⟩ := V.one
  obtain ⟨vs, x, y, _⟩ := R.intL hc ha
  exact call_len_list x.isList (by simp [y.length]; lia) (⟨ρ, .tok R _, s.toks + 1, by simp [y.length]⟩)
theorem cl_lenSL {i : Nat} {l : List (Option Str)} (hc : cs[i]? = some (.strL l)) (hl : l.length ≤ 100000) : Cl k cs (.builtin "len") [.obj i] (.int l.length) cs := by
  intro w c ρ loc s vs sc O R V
  obtain ⟨_, rfl, a, r, ha, rfl⟩ := V.one
  obtain ⟨vs, x, y, _⟩ := R.strL hc ha
  exact call_len_list x.isList (by simp [y.length]; lia) (⟨ρ, .tok R _, s.toks + 1, by simp [y.length]⟩)
end
end
end Mine
namespace Mine
open PySem PySem.W PyProof.Rows PySem.Calls
noncomputable section

noncomputable def Kt (P : Params) : Frag := (Kx P).filter fun p => !tabs.contains p.1
theorem lookup_filter {α : Type} (f : Addr → Bool) : ∀ (l : List (Addr × α)) (a : Addr), (l.filter fun p => f p.1).lookup a = if f a then l.lookup a else none
  | [], a => by simp
  | (b, v) :: r, a => by
    by_cases hb : f b = true
    · rw [List.filter_cons_of_pos (by exact hb), List.lookup_cons, List.lookup_cons, lookup_filter f r a]
      by_cases e : a = b
      · subst e; simp [hb]
      · have : (a == b) = false := by simpa using e
        simp only [this]
    · rw [List.filter_cons_of_neg (by exact hb), lookup_filter f r a, List.lookup_cons]
      by_cases e : a = b
      · subst e; simp [hb]
      · have : (a == b) = false := by simpa using e
        simp only [this]
theorem Stat.kt {w : World} {B : Bs w} {s : Shared} (S : Stat B s) : (Kt w.params).In s.heap := by
  intro a o e
  unfold Kt at e
  rw [lookup_filter (fun a => !tabs.contains a)] at e
  by_cases h : (!tabs.contains a) = true
  · rw [if_pos h] at e
    exact S.keep a o (B.K a o e) (by simpa using h)
  · rw [if_neg h] at e; cases e

section
variable {k : Nat} {sc : Scope} {loc : Locs} {cs : List AC}

noncomputable def CmpC (k : Nat) (cs : List AC) (op : CmpOp) (a b : AV) (r : Bool) : Prop := ∀ (w : World) (c : Cx w) ρ loc s sc va vb (Q : Value → Shared → Prop), c.OK k sc → Rep c ρ loc cs s → VRep ρ s.heap a va → VRep ρ s.heap b vb →
  (∀ tk, Q (.bool r) { s with toks := tk }) → wpAny (MD w) c.A (compareOp op va vb) Q (fun _ _ => False) s
theorem CmpOK.c {op a b r} (h : CmpOK op a b r) : CmpC k cs op a b r := fun w c ρ loc s sc va vb Q O R h1 h2 q => h w c.A ρ s va vb Q _ (by have := O.units; lia) h1 h2 q
theorem ev_cmpc {l r : Expr} {op p a b v cs1 cs2} (h1 : Ev k sc loc cs l a cs1) (h2 : Ev k sc loc cs1 r b cs2) (ho : CmpC k cs2 op a b v) (hm : behindInMarks op r = false) : Ev k sc loc cs (.Compare l [op] [r] p) (.bool v) cs2 := by
  intro w c ρ s O R
  refine wpAny_Compare1 (wpAny_mono (h1 w c ρ s O R) (fun va s1 h => ?_) fun _ _ x => x.elim) hm
  obtain ⟨ρ1, P1, V1⟩ := h
  refine wpAny_mono (h2 w c ρ1 s1 O P1.rep) (fun vb s2 h => ?_) fun _ _ x => x.elim
  obtain ⟨ρ2, P2, V2⟩ := h
  exact ho w c ρ2 loc s2 sc va vb _ O P2.rep (V1.mono P2.pre P2.tk) V2 fun tk => ⟨ρ2, (P1.trans P2).trans (.tok P2.rep tk), rfl⟩
theorem tst_cmpc {l r : Expr} {op p a b v cs1 cs2} (h1 : Ev k sc loc cs l a cs1) (h2 : Ev k sc loc cs1 r b cs2) (ho : CmpC k cs2 op a b v) (hm : behindInMarks op r = false) : Tst k sc loc cs (.Compare l [op] [r] p) v cs2 := by
  intro w c ρ s O R
  refine wpAny_isTrue_Compare1 (wpAny_mono (h1 w c ρ s O R) (fun va s1 h => ?_) fun _ _ x => x.elim) hm
  obtain ⟨ρ1, P1, V1⟩ := h
  refine wpAny_mono (h2 w c ρ1 s1 O P1.rep) (fun vb s2 h => ?_) fun _ _ x => x.elim
  obtain ⟨ρ2, P2, V2⟩ := h
  exact ho w c ρ2 loc s2 sc va vb _ O P2.rep (V1.mono P2.pre P2.tk) V2 fun tk => wpAny_truthy_bool ⟨rfl, ρ2, (P1.trans P2).trans (.tok P2.rep tk)⟩

noncomputable def oD : Option Str → PyData
  | some x => .str x
  | none => .none
theorem OStrsAre.carried {vs l} (h : OStrsAre vs l) : CarriedAll vs (l.map oD) := by
  induction h with
  | nil => exact .nil
  | some x t _ ih => exact .cons (.str _ t) ih
  | none _ ih => exact .cons .none ih
noncomputable def okO : Option Str → Bool
  | some x => PyData.strOk x
  | none => true
theorem oD_canLay : ∀ l : List (Option Str), l.all okO = true → PyData.canLayAll0 (l.map oD) = true
  | [], _ => rfl
  | some x :: r, h => by
    simp only [List.all_cons, Bool.and_eq_true, okO] at h
    simp [PyData.canLayAll0, PyData.canLay0, oD, oD_canLay r h.2, h.1]
  | none :: r, h => by
    simp only [List.all_cons, Bool.and_eq_true, okO] at h
    simp [PyData.canLayAll0, PyData.canLay0, oD, oD_canLay r h.2]
theorem oD_depth : ∀ l : List (Option Str), PyData.depthAll (l.map oD) = 0
  | [] => rfl
  | some x :: r => by simp [PyData.depthAll, PyData.depth, oD, oD_depth r]
  | none :: r => by simp [PyData.depthAll, PyData.depth, oD, oD_depth r]
theorem oD_shaped (l : List (Option Str)) (h : l.all okO = true) : SeqAt.shaped (.list (l.map oD)) = true := by
  simp [SeqAt.shaped, PyData.canLay0, PyData.depth, oD_canLay l h, oD_depth]
theorem cmpc_eqSL {i j : Nat} {l m : List (Option Str)} (hi : cs[i]? = some (.strL l)) (hj : cs[j]? = some (.strL m)) (ol : l.all okO = true) (om : m.all okO = true) : CmpC k cs .Eq (.obj i) (.obj j) (PyData.eqv (.list (l.map oD)) (.list (m.map oD))) := by
  intro w c ρ loc s sc va vb Q O R ha hb q
  refine hideG fun Gq hGq => ?_
  obtain ⟨a, ra, ea, rfl⟩ := ha
  obtain ⟨b, rb, eb, rfl⟩ := hb
  obtain ⟨vs, x, y, _⟩ := R.strL hi ea
  obtain ⟨vs', x', y', _⟩ := R.strL hj eb
  refine hGq ?_
  clear hGq Gq
  exact eq_dataH (reads_newData x.isList y.carried) (reads_newData x'.isList y'.carried) (oD_shaped _ ol) (oD_shaped _ om) (by have := O.units; have e : cLine = 9900 := rfl; lia) (q s.toks)
theorem cmpc_neSL {i j : Nat} {l m : List (Option Str)} (hi : cs[i]? = some (.strL l)) (hj : cs[j]? = some (.strL m)) (ol : l.all okO = true) (om : m.all okO = true) : CmpC k cs .NotEq (.obj i) (.obj j) (!PyData.eqv (.list (l.map oD)) (.list (m.map oD))) := by
  intro w c ρ loc s sc va vb Q O R ha hb q
  refine hideG fun Gq hGq => ?_
  obtain ⟨a, ra, ea, rfl⟩ := ha
  obtain ⟨b, rb, eb, rfl⟩ := hb
  obtain ⟨vs, x, y, _⟩ := R.strL hi ea
  obtain ⟨vs', x', y', _⟩ := R.strL hj eb
  refine hGq ?_
  clear hGq Gq
  exact ne_dataH (reads_newData x.isList y.carried) (reads_newData x'.isList y'.carried) (oD_shaped _ ol) (oD_shaped _ om) (by have := O.units; have e : cLine = 9900 := rfl; lia) (q s.toks)
theorem eqv_self : ∀ l : List (Option Str), PyData.eqv (.list (l.map oD)) (.list (l.map oD)) = true := by
  intro l
  simp only [PyData.eqv]
  induction l with
  | nil => simp [PyData.eqvAll]
  | cons a r ih => cases a <;> simp [PyData.eqvAll, PyData.eqv, oD, ih]
theorem eqv_nil (l : List (Option Str)) : PyData.eqv (.list (l.map oD)) (.list (List.map oD [])) = l.isEmpty := by
  cases l <;> simp [PyData.eqv, PyData.eqvAll]

theorem strs_carried {vs : List Value} {l : List Str} (h : StrsAre vs l) : CarriedAll vs (l.map PyData.str) := by
  induction h with
  | nil => exact .nil
  | cons n t _ ih => exact .cons (.str _ t) ih
theorem str_canLay : ∀ l : List Str, l.all PyData.strOk = true → PyData.canLayAll0 (l.map PyData.str) = true
  | [], _ => rfl
  | x :: r, h => by
    simp only [List.all_cons, Bool.and_eq_true] at h
    simp [PyData.canLayAll0, PyData.canLay0, str_canLay r h.2, h.1]
theorem str_depth : ∀ l : List Str, PyData.depthAll (l.map PyData.str) = 0
  | [] => rfl
  | x :: r => by simp [PyData.depthAll, PyData.depth, str_depth r]
theorem str_shapedT (l : List Str) (h : l.all PyData.strOk = true) : SeqAt.shaped (.tuple (l.map .str)) = true := by
  simp [SeqAt.shaped, PyData.canLay0, PyData.depth, str_canLay l h, str_depth]
theorem cmp_neTS (l m : List Str) (ol : l.all PyData.strOk = true) (om : m.all PyData.strOk = true) : CmpOK .NotEq (.tupS l) (.tupS m) (!PyData.eqv (.tuple (l.map .str)) (.tuple (m.map .str))) := by
  intro w A ρ s va vb Q E hu ⟨a, vs, e1, t1, i1⟩ ⟨b, us, e2, t2, i2⟩ q
  subst e1 e2
  exact ne_dataH (reads_newDataT t1 (strs_carried i1)) (reads_newDataT t2 (strs_carried i2)) (str_shapedT _ ol) (str_shapedT _ om) (by have e : cLine = 9900 := rfl; lia) (q s.toks)

theorem any_ints {vs : List Value} {l : List Int} (h : IntsAre vs l) (i : Int) : (vs.any fun v => match v with | .int j _ => j == i | _ => false) = l.contains i := by
  induction h with
  | nil => rfl
  | cons n t _ ih => rw [List.any_cons, ih, List.contains_cons, Bool.beq_comm (a := i)]
theorem any_strs {vs : List Value} {l : List Str} (h : StrsAre vs l) (i : Str) : (vs.any fun v => match v with | .str j _ => j == i | _ => false) = l.contains i := by
  induction h with
  | nil => rfl
  | cons n t _ ih => rw [List.any_cons, ih, List.contains_cons, Bool.beq_comm (a := i)]
theorem ints_mem {vs : List Value} {l : List Int} (h : IntsAre vs l) : ∀ v ∈ vs, ∃ j t, v = .int j t := by
  induction h with
  | nil => intro v hv; cases hv
  | cons n t _ ih => intro v hv; exact (List.mem_cons.mp hv).elim (fun e => ⟨_, _, e⟩) (ih v)
theorem strs_mem {vs : List Value} {l : List Str} (h : StrsAre vs l) : ∀ v ∈ vs, ∃ j t, v = .str j t := by
  induction h with
  | nil => intro v hv; cases hv
  | cons n t _ ih => intro v hv; exact (List.mem_cons.mp hv).elim (fun e => ⟨_, _, e⟩) (ih v)
theorem IsTup.isTuple {h : Heap} {a : Addr} {items : Array Value} (x : IsTup h a items) : h.IsTuple a items := by
  refine hideG fun Gq hGq => ?_
  obtain ⟨o, ho, hc, n, hd⟩ := x
  refine hGq ?_
  clear hGq Gq
  exact ⟨o, ho, hc, n, hd⟩
theorem cmp_inI (i : Int) (l : List Int) : CmpOK .In (.int i) (.tupI l) (l.contains i) := by
  intro w A ρ s va vb Q E hu ⟨t, e1⟩ ⟨b, us, e2, t2, i2⟩ q
  subst e1 e2
  refine SeqAt.in_tupleAt (fun v => match v with | .int j _ => j == i | _ => false) (IsTup.isTuple t2) (fun y hy => ?_) ?_
  · obtain ⟨j, u, rfl⟩ := ints_mem i2 y (by simpa using hy)
    exact SeqAt.EqAt.int_int _ _ _ _
  · rw [← Array.any_toList, any_ints i2]; exact q s.toks
theorem cmp_inS (i : Str) (l : List Str) : CmpOK .In (.str i) (.tupS l) (l.contains i) := by
  intro w A ρ s va vb Q E hu ⟨t, e1⟩ ⟨b, us, e2, t2, i2⟩ q
  subst e1 e2
  refine SeqAt.in_tupleAt (fun v => match v with | .str j _ => j == i | _ => false) (IsTup.isTuple t2) (fun y hy => ?_) ?_
  · obtain ⟨j, u, rfl⟩ := strs_mem i2 y (by simpa using hy)
    exact SeqAt.EqAt.str_str _ _ _ _
  · rw [← Array.any_toList, any_strs i2]; exact q s.toks
end
end
end Mine
namespace Mine
open PySem PySem.W PyProof.Rows PySem.Calls
noncomputable section

section
variable {k : Nat} {sc : Scope} {loc : Locs} {cs : List AC}

noncomputable def ItC (k : Nat) (cs : List AC) (a i v : AV) : Prop := ∀ (w : World) (c : Cx w) ρ loc s sc va vi, c.OK k sc → Rep c ρ loc cs s → VRep ρ s.heap a va → VRep ρ s.heap i vi →
  ∃ T id, s.TypeIs va T ∧ typeLookup (.type T) "__getitem__" = pure (some (.builtin id)) ∧
    ∀ (Q : Value → Shared → Prop), (∀ v' tk, VRep ρ s.heap v v' → Q v' { s with toks := tk }) → wpAny (MD w) c.A (getItem va vi) Q (fun _ _ => False) s

theorem ev_sub {value slice : Expr} {pos a i v cs1 cs2} (h1 : Ev k sc loc cs value a cs1) (h2 : Ev k sc loc cs1 slice i cs2) (ho : ItC k cs2 a i v) (hs : ∀ o i, subscripted slice false o i = operate [o, i] (getItem o i)) : Ev k sc loc cs (.Subscript value slice pos) v cs2 := by
  intro w c ρ s O R
  refine Subscript_ (wpAny_mono (h1 w c ρ s O R) (fun va s1 h => ?_) fun _ _ x => x.elim)
  obtain ⟨ρ1, P1, V1⟩ := h
  refine wpAny_mono (h2 w c ρ1 s1 O P1.rep) (fun vi s2 h => ?_) fun _ _ x => x.elim
  refine hideG fun Gq hGq => ?_
  obtain ⟨ρ2, P2, V2⟩ := h
  obtain ⟨T, id, hT, hl, hg⟩ := ho w c ρ2 loc s2 sc va vi O P2.rep (V1.mono P2.pre P2.tk) V2
  refine hGq ?_
  clear hGq Gq
  exact tail_any hT hl (hg _ fun v' tk q => ⟨ρ2, (P1.trans P2).trans (.tok P2.rep tk), q⟩) (hs _ _)

theorem seqIndex_nat {i : Int} {n : Nat} (h0 : 0 ≤ i) (h1 : i < n) : seqIndex? i n = some i.toNat := by
  unfold seqIndex?
  have : ¬ i < 0 := by lia
  simp [this, h0, h1]
theorem seqIndex_neg {i : Int} {n : Nat} (h0 : i < 0) (h1 : 0 ≤ i + n) : seqIndex? i n = some (i + n).toNat := by
  unfold seqIndex?
  have : i + n < n := by lia
  simp [h0, h1, this]

theorem it_str {x : Str} {i : Int} {c : Nat} (h0 : 0 ≤ i) (h1 : i ≤ 100000) (hc : x.cps[i.toNat]? = some c) : ItC k cs (.str x) (.int i) (.str ⟨#[c]⟩) := by
  rintro w cx ρ loc s sc va vi O R ⟨t, rfl⟩ ⟨u, rfl⟩
  refine ⟨"str", _, rfl, slot_str_getitem.lookup, fun Q q => ?_⟩
  refine PySem.P.getItem_str (by simp; lia) ?_ (q _ _ ⟨_, rfl⟩)
  have : i < x.length := by
    have := (Array.getElem?_eq_some_iff.mp hc).1
    show i < (x.cps.size : Nat); lia
  rw [seqIndex_nat h0 this]; exact hc

theorem ostrs_get {vs : List Value} {l : List (Option Str)} (x : OStrsAre vs l) : ∀ {i : Nat} {o : Option Str}, l[i]? = some o → ∃ v, vs[i]? = some v ∧ ((o = none ∧ v = .none) ∨ ∃ y t, o = some y ∧ v = .str y t) := by
  induction x with
  | nil => intro i o e; simp at e
  | some y t _ ih =>
    intro i o e
    cases i with
    | zero => simp at e; subst e; exact ⟨_, rfl, .inr ⟨y, t, rfl, rfl⟩⟩
    | succ i => simp at e; simpa using ih e
  | none _ ih =>
    intro i o e
    cases i with
    | zero => simp at e; subst e; exact ⟨_, rfl, .inl ⟨rfl, rfl⟩⟩
    | succ i => simp at e; simpa using ih e
noncomputable def ofO : Option Str → AV
  | some x => .str x
  | none => .none
theorem it_intL {n : Nat} {l : List Int} {i y : Int} (hn : cs[n]? = some (.intL l)) (h0 : 0 ≤ i) (h1 : i ≤ 100000) (hc : l[i.toNat]? = some y) : ItC k cs (.obj n) (.int i) (.int y) := by
  rintro w cx ρ loc s sc va vi O R ⟨a, r, e, rfl⟩ ⟨u, rfl⟩
  refine hideG fun Gq hGq => ?_
  obtain ⟨vs, x, z, _⟩ := R.intL hn e
  refine hGq ?_
  clear hGq Gq
  refine ⟨"list", _, x.isList.typeIs, slot_list_getitem.lookup, fun Q q => ?_⟩
  obtain ⟨t, ht⟩ := z.get _ _ hc
  exact wpAny_getItem_list x.isList h0 (by lia) (by simpa using ht) (q _ s.toks ⟨_, rfl⟩)
theorem it_intL_last {n : Nat} {l : List Int} {y : Int} (hn : cs[n]? = some (.intL (l ++ [y]))) : ItC k cs (.obj n) (.int (-1)) (.int y) := by
  rintro w cx ρ loc s sc va vi O R ⟨a, r, e, rfl⟩ ⟨u, rfl⟩
  refine hideG fun Gq hGq => ?_
  obtain ⟨vs, x, z, _⟩ := R.intL hn e
  refine hGq ?_
  clear hGq Gq
  refine ⟨"list", _, x.isList.typeIs, slot_list_getitem.lookup, fun Q q => ?_⟩
  have hs : vs.length = l.length + 1 := by simpa using z.length
  obtain ⟨t, ht⟩ := z.get l.length y (by simp)
  refine wpAny_getItem_list_neg x.isList (by lia) (by simp; lia) (by lia) ?_ (q _ s.toks ⟨t, rfl⟩)
  have : (-1 + ((vs.toArray.size : Nat) : Int)).toNat = l.length := by simp; lia
  rw [this]; simpa using ht
theorem it_strL {n : Nat} {l : List (Option Str)} {i : Int} {o : Option Str} (hn : cs[n]? = some (.strL l)) (h0 : 0 ≤ i) (h1 : i ≤ 100000) (hc : l[i.toNat]? = some o) : ItC k cs (.obj n) (.int i) (ofO o) := by
  rintro w cx ρ loc s sc va vi O R ⟨a, r, e, rfl⟩ ⟨u, rfl⟩
  refine hideG fun Gq hGq => ?_
  obtain ⟨vs, x, z, _⟩ := R.strL hn e
  refine hGq ?_
  clear hGq Gq
  refine ⟨"list", _, x.isList.typeIs, slot_list_getitem.lookup, fun Q q => ?_⟩
  obtain ⟨v, hv, hq⟩ := ostrs_get z hc
  refine wpAny_getItem_list x.isList h0 (by lia) (by simpa using hv) (q _ s.toks ?_)
  rcases hq with ⟨rfl, rfl⟩ | ⟨y, t, rfl, rfl⟩
  · rfl
  · exact ⟨t, rfl⟩
theorem it_strL_last {n : Nat} {l : List (Option Str)} {o : Option Str} (hn : cs[n]? = some (.strL (l ++ [o]))) : ItC k cs (.obj n) (.int (-1)) (ofO o) := by
  rintro w cx ρ loc s sc va vi O R ⟨a, r, e, rfl⟩ ⟨u, rfl⟩
  refine hideG fun Gq hGq => ?_
  obtain ⟨vs, x, z, _⟩ := R.strL hn e
  refine hGq ?_
  clear hGq Gq
  refine ⟨"list", _, x.isList.typeIs, slot_list_getitem.lookup, fun Q q => ?_⟩
  have hs : vs.length = l.length + 1 := by simpa using z.length
  obtain ⟨v, hv, hq⟩ := ostrs_get z (i := l.length) (o := o) (by simp)
  refine wpAny_getItem_list_neg x.isList (by lia) (by simp; lia) (by lia) (x := v) ?_ (q _ s.toks ?_)
  · have : (-1 + ((vs.toArray.size : Nat) : Int)).toNat = l.length := by simp; lia
    rw [this]; simpa using hv
  · rcases hq with ⟨rfl, rfl⟩ | ⟨y, t, rfl, rfl⟩
    · rfl
    · exact ⟨t, rfl⟩
theorem it_tupI {l : List Int} {i y : Int} (h0 : 0 ≤ i) (h1 : i ≤ 100000) (hc : l[i.toNat]? = some y) : ItC k cs (.tupI l) (.int i) (.int y) := by
  rintro w cx ρ loc s sc va vi O R ⟨a, vs, rfl, x, z⟩ ⟨u, rfl⟩
  refine ⟨"tuple", _, x.typeIs, slot_tuple_getitem.lookup, fun Q q => ?_⟩
  obtain ⟨t, ht⟩ := z.get _ _ hc
  have hlt : i < vs.length := by
    have := (List.getElem?_eq_some_iff.mp ht).1; lia
  exact PyProof.Rows.getItem_tuple x (by lia) (by lia) (by simpa using seqIndex_nat h0 hlt) (by simpa using ht) (q _ s.toks ⟨_, rfl⟩)
theorem it_tupS {l : List Str} {i : Int} {y : Str} (h0 : 0 ≤ i) (h1 : i ≤ 100000) (hc : l[i.toNat]? = some y) : ItC k cs (.tupS l) (.int i) (.str y) := by
  rintro w cx ρ loc s sc va vi O R ⟨a, vs, rfl, x, z⟩ ⟨u, rfl⟩
  refine ⟨"tuple", _, x.typeIs, slot_tuple_getitem.lookup, fun Q q => ?_⟩
  obtain ⟨t, ht⟩ := z.at hc
  have hlt : i < vs.length := by
    have := (List.getElem?_eq_some_iff.mp ht).1; lia
  exact PyProof.Rows.getItem_tuple x (by lia) (by lia) (by simpa using seqIndex_nat h0 hlt) (by simpa using ht) (q _ s.toks ⟨_, rfl⟩)

theorem all2_ints {ρ h} : ∀ {l : List Int} {vs : List Value}, All2 (VRep ρ h) (l.map .int) vs → IntsAre vs l
  | [], _, h => by cases h; exact .nil
  | i :: l, _, h => by
    cases h with
    | cons a r => obtain ⟨t, rfl⟩ := a; exact .cons _ _ (all2_ints r)
theorem all2_strs {ρ h} : ∀ {l : List Str} {vs : List Value}, All2 (VRep ρ h) (l.map .str) vs → StrsAre vs l
  | [], _, h => by cases h; exact .nil
  | i :: l, _, h => by
    cases h with
    | cons a r => obtain ⟨t, rfl⟩ := a; exact .cons _ _ (all2_strs r)
theorem all2_ostrs {ρ h} : ∀ {l : List (Option Str)} {vs : List Value}, All2 (VRep ρ h) (l.map ofO) vs → OStrsAre vs l
  | [], _, h => by cases h; exact .nil
  | some i :: l, _, h => by
    cases h with
    | cons a r => obtain ⟨t, rfl⟩ := a; exact .some _ _ (all2_ostrs r)
  | none :: l, _, h => by
    cases h with
    | cons a r => cases a; exact .none (all2_ostrs r)

theorem ev_tupI {es : List Expr} {n p} {l : List Int} {cs1} (h : EvL k sc loc cs es (l.map .int) cs1) (hl : l.length ≤ 1000) : Ev k sc loc cs (.Tuple es n p) (.tupI l) cs1 := by
  intro w c ρ s O R
  refine wpAny_Tuple (wpAny_mono (h w c ρ s p O R) (fun vs s1 h => ?_) fun _ _ x => x.elim)
  obtain ⟨ρ1, P1, V⟩ := h
  have hv := all2_ints V
  refine ⟨by rw [hv.length, sizeLine_eq]; lia, ρ1, P1.trans (.heap P1.rep (tk := s1.toks) fun b o e => Heap.get?_push_of_some _ e), _, vs, rfl, ⟨_, Heap.get?_push_size _ rfl, rfl, _, rfl⟩, hv⟩
theorem ev_tupS {es : List Expr} {n p} {l : List Str} {cs1} (h : EvL k sc loc cs es (l.map .str) cs1) (hl : l.length ≤ 1000) : Ev k sc loc cs (.Tuple es n p) (.tupS l) cs1 := by
  intro w c ρ s O R
  refine wpAny_Tuple (wpAny_mono (h w c ρ s p O R) (fun vs s1 h => ?_) fun _ _ x => x.elim)
  obtain ⟨ρ1, P1, V⟩ := h
  have hv := all2_strs V
  refine ⟨by rw [hv.length, sizeLine_eq]; lia, ρ1, P1.trans (.heap P1.rep (tk := s1.toks) fun b o e => Heap.get?_push_of_some _ e), _, vs, rfl, ⟨_, Heap.get?_push_size _ rfl, rfl, _, rfl⟩, hv⟩

theorem Post.newObj {w : World} {c : Cx w} {ρ s} (R : Rep c ρ loc cs s) {o : Obj} {ac : AC} {tk : Tok} (hf : o.isFreed = false) (hn : CellAt w.params (ρ ++ [[s.heap.objs.size]]) { s with heap := s.heap.push o, toks := tk } ac [s.heap.objs.size]) :
    Post c ρ s loc (cs ++ [ac]) { s with heap := s.heap.push o, toks := tk } (ρ ++ [[s.heap.objs.size]]) :=
  R.newCell (s' := { s with heap := s.heap.push o, toks := tk }) (fun b o e => Heap.get?_push_of_some _ e) (fun _ _ e => e) R.stat.bare rfl (fun a ha => by rw [List.mem_singleton.mp ha]; exact Nat.le_refl _) (by simp) hn
theorem vrep_new {ρ : List (List Addr)} {h : Heap} {a : Addr} {r : List Addr} {n : Nat} (hn : ρ.length = n) : VRep (ρ ++ [a :: r]) h (.obj n) (.ref a) := ⟨a, r, by subst hn; simp, rfl⟩

theorem ev_listI {es : List Expr} {p} {l : List Int} {cs1} (h : EvL k sc loc cs es (l.map .int) cs1) (hl : l.length ≤ 1000) : Ev k sc loc cs (.List es p) (.obj cs1.length) (cs1 ++ [.intL l]) := by
  intro w c ρ s O R
  refine wpAny_List (wpAny_mono (h w c ρ s p O R) (fun vs s1 h => ?_) fun _ _ x => x.elim)
  obtain ⟨ρ1, P1, V⟩ := h
  have hv := all2_ints V
  exact ⟨by rw [hv.length, sizeLine_eq]; lia, _, P1.trans (Post.newObj P1.rep (tk := s1.toks) rfl ⟨_, vs, rfl, ⟨_, Heap.get?_push_size _ rfl⟩, hv⟩), vrep_new P1.rep.len⟩
theorem ev_listS {es : List Expr} {p} {l : List (Option Str)} {cs1} (h : EvL k sc loc cs es (l.map ofO) cs1) (hl : l.length ≤ 1000) : Ev k sc loc cs (.List es p) (.obj cs1.length) (cs1 ++ [.strL l]) := by
  intro w c ρ s O R
  refine wpAny_List (wpAny_mono (h w c ρ s p O R) (fun vs s1 h => ?_) fun _ _ x => x.elim)
  obtain ⟨ρ1, P1, V⟩ := h
  have hv := all2_ostrs V
  exact ⟨by rw [hv.length, sizeLine_eq]; lia, _, P1.trans (Post.newObj P1.rep (tk := s1.toks) rfl ⟨_, vs, rfl, ⟨_, Heap.get?_push_size _ rfl⟩, hv⟩), vrep_new P1.rep.len⟩

theorem ev_chain {l r1 r2 : Expr} {o1 o2 p a b d v1 v2} (h1 : Ev k sc loc cs l a cs) (h2 : Ev k sc loc cs r1 b cs) (h3 : Ev k sc loc cs r2 d cs) (c1 : CmpOK o1 a b v1) (c2 : CmpOK o2 b d v2) (hm : lastMarks [o1, o2] [r1, r2] = false) :
    Ev k sc loc cs (.Compare l [o1, o2] [r1, r2] p) (.bool (v1 && v2)) cs := by
  intro w c ρ s O R
  refine Compare_chain (wpAny_mono (h1 w c ρ s O R) (fun va s1 h => ?_) fun _ _ x => x.elim) hm
  obtain ⟨ρ1, P1, V1⟩ := h
  refine chain_link (wpAny_mono (h2 w c ρ1 s1 O P1.rep) (fun vb s2 h => ?_) fun _ _ x => x.elim)
  obtain ⟨ρ2, P2, V2⟩ := h
  refine c1 w c.A ρ2 s2 va vb _ _ (by have := O.units; lia) (V1.mono P2.pre P2.tk) V2 fun tk => wpAny_truthy_bool ?_
  have P2' := (P1.trans P2).trans (.tok P2.rep tk)
  cases v1 with
  | false => exact ⟨ρ2, P2', rfl⟩
  | true =>
    rw [if_pos rfl]
    refine chain_last (wpAny_mono (h3 w c ρ2 _ O P2'.rep) (fun vd s3 h => ?_) fun _ _ x => x.elim)
    obtain ⟨ρ3, P3, V3⟩ := h
    exact c2 w c.A ρ3 s3 vb vd _ _ (by have := O.units; lia) (V2.mono P3.pre P3.tk) V3 fun tk => ⟨ρ3, (P2'.trans P3).trans (.tok P3.rep tk), rfl⟩

theorem ev_andB {x y : Expr} {p b1 cs1 v cs2} (h1 : Ev k sc loc cs x (.bool b1) cs1) (h2 : b1 = true → Ev k sc loc cs1 y v cs2) (h3 : b1 = false → v = .bool false ∧ cs2 = cs1) : Ev k sc loc cs (.BoolOp .And [x, y] p) v cs2 := by
  intro w c ρ s O R
  refine wpAny_And2 (wpAny_mono (h1 w c ρ s O R) (fun va s1 h => ?_) fun _ _ x => x.elim)
  obtain ⟨ρ1, P1, rfl⟩ := h
  refine wpAny_truthy_bool ?_
  cases b1 with
  | false => obtain ⟨rfl, rfl⟩ := h3 rfl; exact ⟨ρ1, P1, rfl⟩
  | true =>
    rw [if_pos rfl]
    exact wpAny_mono (h2 rfl w c ρ1 s1 O P1.rep) (fun vd s3 ⟨ρ3, P3, V3⟩ => ⟨ρ3, P1.trans P3, V3⟩) fun _ _ x => x
theorem ev_orB {x y : Expr} {p b1 cs1 v cs2} (h1 : Ev k sc loc cs x (.bool b1) cs1) (h2 : b1 = false → Ev k sc loc cs1 y v cs2) (h3 : b1 = true → v = .bool true ∧ cs2 = cs1) : Ev k sc loc cs (.BoolOp .Or [x, y] p) v cs2 := by
  intro w c ρ s O R
  refine wpAny_Or2 (wpAny_mono (h1 w c ρ s O R) (fun va s1 h => ?_) fun _ _ x => x.elim)
  obtain ⟨ρ1, P1, rfl⟩ := h
  refine wpAny_truthy_bool ?_
  cases b1 with
  | true => obtain ⟨rfl, rfl⟩ := h3 rfl; exact ⟨ρ1, P1, rfl⟩
  | false =>
    rw [if_neg (by decide)]
    exact wpAny_mono (h2 rfl w c ρ1 s1 O P1.rep) (fun vd s3 ⟨ρ3, P3, V3⟩ => ⟨ρ3, P1.trans P3, V3⟩) fun _ _ x => x
end
end
end Mine
namespace Mine
open PySem PySem.W PyProof.Rows PySem.Calls
noncomputable section
local macro_rules | `(tactic| kl_some) => `(tactic| first
  | ((with_reducible apply evl_cons); (· kl_some); (· kl_some); (· exact fun _ => rfl))
  | with_reducible exact evl_nil
  | ((with_reducible apply ev_local); (· exact rfl); (· exact rfl); (· exact rfl))
  | with_reducible exact ev_int
  | ((with_reducible apply ev_bin); (· kl_some); (· kl_some); (· k_units))
  | ((with_reducible apply ev_call); (· kl_some); (· kl_some); (· ki_room); (· kl_room); (· exact fun _ => rfl))
  | ((with_reducible apply ev_stat); (· exact rfl); (· kl_room); (· exact rfl))
  | ((with_reducible apply ev_sub); (· kl_some); (· kl_some); (· k_units); (· exact fun _ _ => rfl))
  | with_reducible exact ev_str
  | with_reducible exact ev_none
  | with_reducible exact ev_bool
  | ((with_reducible apply ev_neg); (· kl_some))
  | ((with_reducible apply ev_cmpc); (· kl_some); (· kl_some); (· k_units); (· exact rfl))
  | ((with_reducible apply tst_cmpc); (· kl_some); (· kl_some); (· k_units); (· exact rfl))
  | ((with_reducible apply tst_not); (· kl_some))
  | ((with_reducible apply tst_val); (· kl_some); (· k_units); (· exact fun _ _ => rfl)))
local macro_rules | `(tactic| k_units) => `(tactic| with_reducible first
  | apply bin_add
  | apply bin_sub
  | apply bin_and
  | apply bin_or
  | (apply bin_mod; decide)
  | (apply bin_cat; assumption)
  | exact (cmp_eqI _ _).c
  | exact (cmp_neI _ _).c
  | exact (cmp_ltI _ _).c
  | exact (cmp_leI _ _).c
  | exact (cmp_gtI _ _).c
  | exact (cmp_eqS _ _).c
  | exact (cmp_neS _ _).c
  | exact (cmp_inI _ _).c
  | exact (cmp_inS _ _).c
  | exact tru_bool _
  | exact tru_int _
  | assumption)
local macro_rules | `(tactic| ki_room) => `(tactic| with_reducible first
  | assumption
  | exact (pcl_ord _).cl
  | exact (pcl_isiS _).cl
  | exact (pcl_isiI _).cl
  | (refine (pcl_chr _ ?_ ?_).cl <;> first | assumption | with_unfolding_all decide)
  | (refine (pcl_lenS _ ?_).cl <;> assumption)
  | (apply cl_lenSL <;> assumption)
  | (apply cl_lenIL <;> assumption))
local macro_rules | `(tactic| kl_room) => `(tactic| first
  | exact trivial
  | with_reducible (first | exact gl_len | exact gl_chr | exact gl_ord | exact gl_isinstance | exact glT_str | exact glT_range | exact gl_next | exact gl_sum | exact gl_ctoi | exact glisprint | exact glctrl | exact glalt | exact glunctrl | exact gl_law_shown | exact gl_law_words | exact gl_law_coder | exact gl_law_messages | exact gl_law_row | exact gl_law_due | exact gl_law_read | exact gl_ValueFormatter | exact gl_Accumulator | exact cal204 | exact cal211 | exact cal218 | exact cal225 | exact cal232 | exact cal239 | exact cal246 | exact cal260 | exact cal267 | exact cal279)
  | fail "none")
section
open PySem PySem.W PyProof.Rows PySem.Calls
section
variable {k : Nat} {cs : List AC}
theorem cl_ctoiS (c : Nat) : Cl (k + 1) cs (.ref 204) [.str ⟨#[c]⟩] (.int c) cs :=
  cl_fn (f := .ret (.int c)) (fun P => fn204 P) rfl (exs_ret (ex_if (b := true) (by kl_some) (exs_ret (ex_ret (by kl_some)))))
theorem cl_ctoiI (i : Int) : Cl (k + 1) cs (.ref 204) [.int i] (.int i) cs :=
  cl_fn (f := .ret (.int i)) (fun P => fn204 P) rfl (exs_ret (ex_if (b := false) (by kl_some) (exs_ret (ex_ret (by kl_some)))))
local macro_rules | `(tactic| ki_room) => `(tactic| with_reducible exact cl_ctoiS _)
local macro_rules | `(tactic| ki_room) => `(tactic| with_reducible exact cl_ctoiI _)
theorem cl_isprint (i : Int) : Cl (k + 2) cs (.ref 211) [.int i] (.bool (decide (32 ≤ i) && decide (i ≤ 126))) cs :=
  cl_fn (f := .ret _) (fun P => fn211 P) rfl (exs_ret (ex_ret (ev_chain (by kl_some) (by kl_some) (by kl_some) (cmp_leI _ _) (cmp_leI _ _) rfl)))
local macro_rules | `(tactic| ki_room) => `(tactic| with_reducible exact cl_isprint _)
theorem cl_ctrl (c : Nat) (h0 : 0 ≤ Builtin.bitAnd (c : Int) 31) (h1 : Builtin.bitAnd (c : Int) 31 ≤ 1114111) : Cl (k + 2) cs (.ref 218) [.str ⟨#[c]⟩] (.str ⟨#[(Builtin.bitAnd (c : Int) 31).toNat]⟩) cs :=
  cl_fn (f := .ret (.str _)) (fun P => fn218 P) rfl (exs_ret (ex_if (b := true) (by kl_some) (exs_ret (ex_ret (by kl_some)))))
theorem cl_alt (c : Nat) (h0 : 0 ≤ Builtin.bitOr (c : Int) 128) (h1 : Builtin.bitOr (c : Int) 128 ≤ 1114111) : Cl (k + 2) cs (.ref 225) [.str ⟨#[c]⟩] (.str ⟨#[(Builtin.bitOr (c : Int) 128).toNat]⟩) cs :=
  cl_fn (f := .ret (.str _)) (fun P => fn225 P) rfl (exs_ret (ex_if (b := true) (by kl_some) (exs_ret (ex_ret (by kl_some)))))

noncomputable def unR (c : Nat) : Str := if (c : Int) == 127 then Str.ofString "^?" else if (decide (32 ≤ Builtin.bitAnd (c : Int) 127) && decide (Builtin.bitAnd (c : Int) 127 ≤ 126)) then ⟨#[(Builtin.bitAnd (c : Int) 127).toNat]⟩
  else Str.ofString "^" ++ ⟨#[(Builtin.bitOr (Builtin.bitAnd (c : Int) 127) 32 + 32).toNat]⟩
noncomputable def unF (c : Nat) : Str := if (Builtin.bitAnd (c : Int) 128 != 0) then Str.ofString "!" ++ unR c else unR c
theorem bits_ok : ∀ c : Fin 256, 0 ≤ Builtin.bitAnd (c : Int) 127 ∧ Builtin.bitAnd (c : Int) 127 ≤ 1114111 ∧ 0 ≤ Builtin.bitOr (Builtin.bitAnd (c : Int) 127) 32 + 32 ∧ Builtin.bitOr (Builtin.bitAnd (c : Int) 127) 32 + 32 ≤ 1114111 := by decide +kernel
theorem unR_len (c : Nat) : (unR c).length ≤ 2 := by
  unfold unR
  split
  · decide
  · split
    · exact Nat.le_of_ble_eq_true rfl
    · exact Nat.le_of_ble_eq_true rfl
theorem cat1_len (x : Str) (h : x.length ≤ 2) : (Str.ofString "!").length + x.length ≤ 10000 := by
  have : (Str.ofString "!").length = 1 := rfl
  lia

local macro_rules | `(tactic| k_units) => `(tactic| (with_reducible apply bin_cat); exact Nat.le_of_ble_eq_true rfl)
theorem ev_ifT {sc loc} {t a b : Expr} {p v cs1 cs2} (h : Tst k sc loc cs t true cs1) (h2 : Ev k sc loc cs1 a v cs2) : Ev k sc loc cs (.IfExp t a b p) v cs2 := ev_if h (by simpa using h2)
theorem ev_ifF {sc loc} {t a b : Expr} {p v cs1 cs2} (h : Tst k sc loc cs t false cs1) (h2 : Ev k sc loc cs1 b v cs2) : Ev k sc loc cs (.IfExp t a b p) v cs2 := ev_if h (by simpa using h2)
theorem ex_ifT {sc loc} {t : Expr} {body orelse : List Stmt} {p cs1 f loc2 cs2} (h : Tst k sc loc cs t true cs1) (h2 : Exs k sc loc cs1 body f loc2 cs2) : Ex k sc loc cs (.If t body orelse p) f loc2 cs2 := ex_if h (by simpa using h2)
theorem ex_ifF {sc loc} {t : Expr} {body orelse : List Stmt} {p cs1 f loc2 cs2} (h : Tst k sc loc cs t false cs1) (h2 : Exs k sc loc cs1 orelse f loc2 cs2) : Ex k sc loc cs (.If t body orelse p) f loc2 cs2 := ex_if h (by simpa using h2)
theorem tst_eq {sc loc e b b' cs'} (h : Tst k sc loc cs e b cs') (e' : b = b') : Tst k sc loc cs e b' cs' := e' ▸ h

noncomputable def Bf (k : Nat) (sc : Scope) (loc : Locs) (cs : List AC) (sts : List Stmt) (f : AF) (cs' : List AC) : Prop := ∃ loc', Exs k sc loc cs sts f loc' cs'
theorem bf_nil {sc loc} : Bf k sc loc cs [] .next cs := ⟨_, exs_nil⟩
theorem bf_cons {sc loc st rest loc1 cs1 f cs2} (h : Ex k sc loc cs st .next loc1 cs1) (h2 : Bf k sc loc1 cs1 rest f cs2) : Bf k sc loc cs (st :: rest) f cs2 := let ⟨_, h2⟩ := h2; ⟨_, exs_cons h h2⟩
theorem bf_ret {sc loc rest e pos v cs1} (h : Ev k sc loc cs e v cs1) : Bf k sc loc cs (.Return (some e) pos :: rest) (.ret v) cs1 := ⟨_, exs_ret (ex_ret h)⟩
theorem bf_ret0 {sc loc rest pos} : Bf k sc loc cs (.Return none pos :: rest) (.ret .none) cs := ⟨_, exs_ret ex_ret0⟩
theorem bf_ifRT {sc loc rest t body orelse p cs1 v cs2} (h : Tst k sc loc cs t true cs1) (h2 : Bf k sc loc cs1 body (.ret v) cs2) : Bf k sc loc cs (.If t body orelse p :: rest) (.ret v) cs2 := let ⟨_, h2⟩ := h2; ⟨_, exs_ret (ex_ifT h h2)⟩
theorem bf_ifRF {sc loc rest t body orelse p cs1 v cs2} (h : Tst k sc loc cs t false cs1) (h2 : Bf k sc loc cs1 orelse (.ret v) cs2) : Bf k sc loc cs (.If t body orelse p :: rest) (.ret v) cs2 := let ⟨_, h2⟩ := h2; ⟨_, exs_ret (ex_ifF h h2)⟩
theorem bf_ifNT {sc loc rest t body orelse p cs1 loc2 cs2 f cs3} (h : Tst k sc loc cs t true cs1) (h2 : Exs k sc loc cs1 body .next loc2 cs2) (h3 : Bf k sc loc2 cs2 rest f cs3) : Bf k sc loc cs (.If t body orelse p :: rest) f cs3 := bf_cons (ex_ifT h h2) h3
theorem bf_ifNF {sc loc rest t body orelse p cs1 loc2 cs2 f cs3} (h : Tst k sc loc cs t false cs1) (h2 : Exs k sc loc cs1 orelse .next loc2 cs2) (h3 : Bf k sc loc2 cs2 rest f cs3) : Bf k sc loc cs (.If t body orelse p :: rest) f cs3 := bf_cons (ex_ifF h h2) h3
theorem bf_eq {sc loc sts f f' cs1} (h : Bf k sc loc cs sts f cs1) (e : f = f') : Bf k sc loc cs sts f' cs1 := e ▸ h
theorem cl_bf {a : Addr} {args : List AV} {cs' : List AC} {sc : Scope} {body : List Stmt} {names : List Str} (f : AF) (F : ∀ P, Fn P a sc body names) (hl : names.length = args.length) (h : Bf k sc (names.zip args) cs body f cs') : Cl (k + 1) cs (.ref a) args f.val cs' :=
  let ⟨_, h⟩ := h; cl_fn F hl h

local macro_rules | `(tactic| kt_l_size) => `(tactic| first
  | ((with_reducible apply exs_cons); (· kt_l_size); (· kt_l_size))
  | with_reducible exact exs_nil
  | ((with_reducible apply ex_assign); (· kl_some); (· exact rfl); (· exact fun _ => rfl))
  | ((with_reducible apply ex_expr); (· kl_some); (· exact fun _ => rfl)))

theorem cl_unctrl (c : Nat) (hc : c < 256) : Cl (k + 4) cs (.ref 232) [.str ⟨#[c]⟩] (.str (unF c)) cs := by
  refine hideG fun Gq hGq => ?_
  obtain ⟨h1, h2, h3, h4⟩ := bits_ok ⟨c, hc⟩
  refine hGq ?_
  clear hGq Gq
  simp only at h1 h2 h3 h4
  apply cl_bf (.ret (.str (unF c))) (fun P => fn232 P) rfl
  apply bf_cons (by kt_l_size)
  have fin : ∀ loc : Locs, loc.lookup (Str.ofString "rep") = some (.str (unR c)) → loc.lookup (Str.ofString "bits") = some (.int c) → Bf (k + 3) (scA 232) loc cs ((bodyA 232).drop 2) (.ret (.str (unF c))) cs := by
    intro loc hr hb
    have el : Ev (k + 3) (scA 232) loc cs (.Name (Str.ofString "rep") default) (.str (unR c)) cs := ev_local rfl hr rfl
    have hl := cat1_len (unR c) (unR_len c)
    unfold unF
    by_cases e : (Builtin.bitAnd (c : Int) 128 != 0) = true
    · rw [if_pos e]
      refine bf_ifRT (tst_eq (tst_val (ev_bin (ev_local rfl hb rfl) ev_int (bin_and _ _)) (tru_int _) (fun _ _ => rfl)) e) (bf_ret (ev_bin ev_str (ev_local rfl hr rfl) (bin_cat _ _ hl)))
    · rw [if_neg e]
      refine bf_ifNF (tst_eq (tst_val (ev_bin (ev_local rfl hb rfl) ev_int (bin_and _ _)) (tru_int _) (fun _ _ => rfl)) (by simpa using e)) exs_nil (bf_ret (ev_local rfl hr rfl))
  by_cases e1 : ((c : Int) == 127) = true
  · apply bf_ifNT (tst_eq (by kl_some) e1) (by kt_l_size)
    exact fin _ (by unfold unR; rw [if_pos e1]; rfl) rfl
  · by_cases e2 : (decide (32 ≤ Builtin.bitAnd (c : Int) 127) && decide (Builtin.bitAnd (c : Int) 127 ≤ 126)) = true
    · apply bf_ifNF (tst_eq (by kl_some) (by simpa using e1)) (exs_cons (ex_ifT (tst_eq (by kl_some) e2) (by kt_l_size)) exs_nil)
      exact fin _ (by unfold unR; rw [if_neg e1, if_pos e2]; rfl) rfl
    · apply bf_ifNF (tst_eq (by kl_some) (by simpa using e1)) (exs_cons (ex_ifF (tst_eq (by kl_some) (by simpa using e2)) (by kt_l_size)) exs_nil)
      exact fin _ (by unfold unR; rw [if_neg e1, if_neg e2]; rfl) rfl

noncomputable def shR (c : Nat) : Str := if (c : Int) == 127 then Str.ofString "^?" else if decide ((c : Int).fmod 128 < 32) then Str.ofString "^" ++ ⟨#[(64 + (c : Int).fmod 128).toNat]⟩
  else if (c : Int).fmod 128 == 127 then Str.ofString "^" ++ ⟨#[159]⟩ else ⟨#[((c : Int).fmod 128).toNat]⟩
noncomputable def shF (c : Nat) : Str := if decide ((c : Int) > 127) then Str.ofString "!" ++ shR c else shR c
theorem sh_ok : ∀ c : Fin 256, 0 ≤ (c : Int).fmod 128 ∧ (c : Int).fmod 128 ≤ 1114111 ∧ 0 ≤ 64 + (c : Int).fmod 128 ∧ 64 + (c : Int).fmod 128 ≤ 1114111 := by decide +kernel
theorem sh_un : ∀ c : Fin 256, shF c = unF c := by decide +kernel
theorem shR_len (c : Nat) : (shR c).length ≤ 2 := by
  unfold shR
  split
  · decide
  · split
    · exact Nat.le_of_ble_eq_true rfl
    · split
      · exact Nat.le_of_ble_eq_true rfl
      · exact Nat.le_of_ble_eq_true rfl

theorem cl_shown (c : Nat) (hc : c < 256) : Cl (k + 1) cs (.ref 239) [.int c] (.str (shF c)) cs := by
  refine hideG fun Gq hGq => ?_
  obtain ⟨h1, h2, h3, h4⟩ := sh_ok ⟨c, hc⟩
  refine hGq ?_
  clear hGq Gq
  simp only at h1 h2 h3 h4
  apply cl_bf (.ret (.str (shF c))) (fun P => fn239 P) rfl
  apply bf_cons (by kt_l_size)
  have fin : ∀ loc : Locs, loc.lookup (Str.ofString "shown") = some (.str (shR c)) → loc.lookup (Str.ofString "code") = some (.int c) → Bf k (scA 239) loc cs ((bodyA 239).drop 2) (.ret (.str (shF c))) cs := by
    intro loc hr hb
    have hl := cat1_len (shR c) (shR_len c)
    unfold shF
    have t := tst_cmpc (k := k) (sc := scA 239) (cs := cs) (p := default) (ev_local (x := Str.ofString "code") (p := default) rfl hb rfl) (ev_int (i := 127) (n := 0) (p := default)) (cmp_gtI _ _).c rfl
    by_cases e : decide ((c : Int) > 127) = true
    · rw [if_pos e]
      exact bf_ret (ev_ifT (tst_eq (tst_cmpc (ev_local rfl hb rfl) ev_int (cmp_gtI _ _).c rfl) e) (ev_bin ev_str (ev_local rfl hr rfl) (bin_cat _ _ hl)))
    · rw [if_neg e]
      exact bf_ret (ev_ifF (tst_eq (tst_cmpc (ev_local rfl hb rfl) ev_int (cmp_gtI _ _).c rfl) (by simpa using e)) (ev_local rfl hr rfl))
  by_cases e1 : ((c : Int) == 127) = true
  · apply bf_ifNT (tst_eq (by kl_some) e1) (by kt_l_size)
    exact fin _ (by unfold shR; rw [if_pos e1]; rfl) rfl
  · by_cases e2 : decide ((c : Int).fmod 128 < 32) = true
    · apply bf_ifNF (tst_eq (by kl_some) (by simpa using e1)) (exs_cons (ex_ifT (tst_eq (by kl_some) e2) (by kt_l_size)) exs_nil)
      exact fin _ (by unfold shR; rw [if_neg e1, if_pos e2]; rfl) rfl
    · by_cases e3 : ((c : Int).fmod 128 == 127) = true
      · apply bf_ifNF (tst_eq (by kl_some) (by simpa using e1)) (exs_cons (ex_ifF (tst_eq (by kl_some) (by simpa using e2)) (exs_cons (ex_ifT (tst_eq (by kl_some) e3) (by kt_l_size)) exs_nil)) exs_nil)
        exact fin _ (by unfold shR; rw [if_neg e1, if_neg e2, if_pos e3]; rfl) rfl
      · apply bf_ifNF (tst_eq (by kl_some) (by simpa using e1)) (exs_cons (ex_ifF (tst_eq (by kl_some) (by simpa using e2)) (exs_cons (ex_ifF (tst_eq (by kl_some) (by simpa using e3)) (by kt_l_size)) exs_nil)) exs_nil)
        exact fin _ (by unfold shR; rw [if_neg e1, if_neg e2, if_neg e3]; rfl) rfl
end
end
section
open PySem PySem.W PyProof.Rows PySem.Calls
section
variable {k : Nat} {sc : Scope} {loc : Locs} {cs : List AC}

noncomputable def rangeL (a b : Int) : List AV := (List.range (b - a).toNat).map fun (i : Nat) => AV.int (a + i)
theorem rangeL_get {a b : Int} {i : Nat} {v : AV} (h : (rangeL a b)[i]? = some v) : (i : Int) < b - a ∧ v = .int (a + i) := by
  unfold rangeL at h
  rw [List.getElem?_map] at h
  by_cases hi : i < (b - a).toNat
  · rw [List.getElem?_range hi] at h
    simp at h; exact ⟨by lia, h.symm⟩
  · rw [List.getElem?_eq_none (by simpa using hi)] at h; simp at h

theorem for_range {w : World} {c : Cx w} (O : c.OK k sc) {x : Str} {px : Pos} {body : List Stmt} {a b : Int} {loc' : Locs} {cs' : List AC} {ρ : List (List Addr)} {s : Shared} {r : Addr} {t u v : Tok}
    (hx : sc.names.lookup x = some .local) (h : Fo k sc x body (fun _ => True) (rangeL a b) loc cs loc' cs') (ha : -1000000 ≤ a) (ha' : a ≤ 1000000) (hb : -1000000 ≤ b) (hb' : b ≤ 1000000) (R : Rep c ρ loc cs s) (hr : IsRange s.heap r a b 1 t u v) :
    wpAny (MD w) c.A (pyIter (.ref r)) (fun it s2 => codeAny (MD w) c.A (.forLoop (.Name x px) it body [] c.env) (fun r s' => r = .ok .next ∧ ∃ ρ', Post c ρ s loc' cs' s' ρ') s2) (fun _ _ => False) s := by
  refine wpAny_pyIter_range hr (small_one (by lia) (by lia) (by lia) (by lia)) ?_
  have hI : (s.heap.push { cls := .type "range_iterator", data := .fields #[rawInt a, rawInt (Builtin.Range.rangeSize a b 1), rawInt 1] }).get? s.heap.objs.size = some { cls := .type "range_iterator", data := .fields #[rawInt a, rawInt (Builtin.Range.rangeSize a b 1), rawInt 1] } := Heap.get?_push_size _ rfl
  have R2 := R.addIce (s' := { s with heap := s.heap.push { cls := .type "range_iterator", data := .fields #[rawInt a, rawInt (Builtin.Range.rangeSize a b 1), rawInt 1] } }) hI (Nat.le_refl _) (fun b o e => Heap.get?_push_of_some _ e) (fun _ _ e => e) R.stat.bare rfl
  have tk0 : TK s.heap (s.heap.push { cls := .type "range_iterator", data := .fields #[rawInt a, rawInt (Builtin.Range.rangeSize a b 1), rawInt 1] }) := TK.of_keeps fun b o e => Heap.get?_push_of_some _ e
  refine codeAny_mono (for_core O (P := fun i o => o = { cls := .type "range_iterator", data := .fields #[rawInt (a + i), rawInt ((if a < b then b - a else 0) - i), rawInt 1] }) ?_ ?_ ?_ hx h ?_ R2) (fun r s' hq => ?_)
  · rintro i o rfl; simp
  · rintro i v loc1 cs1 ρ1 s1 o Q E hi rfl _ _ R1 q
    obtain ⟨h1, rfl⟩ := rangeL_get hi
    have hat := R1.frz _ (.head _)
    refine wpAny_pyNext_range_item (x := a + i) (left := (if a < b then b - a else 0) - i) (step := 1) hat (by split <;> lia) fun h' hit hsb => ?_
    have e1 : a + (i : Int) + 1 = a + ((i + 1 : Nat) : Int) := by lia
    have e2 : (if a < b then b - a else 0) - (i : Int) - 1 = (if a < b then b - a else 0) - ((i + 1 : Nat) : Int) := by lia
    rw [e1, e2] at hit
    exact q _ _ _ _ ⟨_, rfl⟩ rfl hit hsb.extBut
  · rintro loc1 cs1 ρ1 s1 o Q E rfl _ _ R1 q
    have hat := R1.frz _ (.head _)
    have hlen : ((rangeL a b).length : Int) = if a < b then b - a else 0 := by
      unfold rangeL; simp; split <;> lia
    exact wpAny_pyNext_range_end (O.hd) hat (by rw [hlen]; lia) fun h' hx' => q h' _ hx'
  · rw [rangeSize_one]; simp
  · obtain ⟨e, ρ', P⟩ := hq
    exact ⟨e, ρ', ⟨P.pre, tk0.trans P.tk, P.rep⟩⟩

theorem ex_forRange2 {x : Str} {px p1 p2 pos : Pos} {args : List Expr} {body : List Stmt} {a b : Int} {loc' : Locs} {cs' cs1 : List AC} (hf : Ev k sc loc cs (.Name "range" p1) (.stat (.type "range")) cs) (hargs : EvL k sc loc cs args [.int a, .int b] cs1) (hx : sc.names.lookup x = some .local)
    (h : Fo k sc x body (fun _ => True) (rangeL a b) loc cs1 loc' cs') (ha : -1000000 ≤ a) (ha' : a ≤ 1000000) (hb : -1000000 ≤ b) (hb' : b ≤ 1000000) (he : ∀ env, starEach args env = args.map fun e => (false, eval e env))
    (hs : ∀ env x, foldedSetIterable (.Call (.Name "range" p1) args [] p2) env x = pure x) : Ex k sc loc cs (.For (.Name x px) (.Call (.Name "range" p1) args [] p2) body [] pos) .next loc' cs' := by
  intro w c ρ s O R
  refine wpAny_For (wpAny_Call_NameR (wpAny_mono (hf w c ρ s O R) (fun f' s1 hq => ?_) fun _ _ x => x.elim)) (hs _)
  obtain ⟨ρ1, P1, rfl⟩ := hq
  refine PySem.callWith_type (backTo_plain _ _ _ (he _)) (wpAny_callArgs (wpAny_mono (hargs w c ρ1 s1 p2 O P1.rep) (fun vs s2 hq => ?_) fun _ _ x => x.elim) (he _))
  refine hideG fun Gq hGq => ?_
  obtain ⟨ρ2, P2, V2⟩ := hq
  obtain ⟨_, _, rfl, ⟨t, rfl⟩, u, rfl⟩ := V2.two
  refine hGq ?_
  clear hGq Gq
  refine call_range_2 ?_
  have R3 := P2.rep.heap (h' := s2.heap.push { cls := .type "range", data := .fields #[.int a t, .int b u, .int 1 s2.toks] }) (tk := s2.toks + 1) fun b o e => Heap.get?_push_of_some _ e
  have P3 := (P1.trans P2).trans ⟨List.prefix_refl _, TK.of_keeps (fun b o e => Heap.get?_push_of_some _ e), R3⟩
  refine wpAny_mono (for_range O (px := px) hx h ha ha' hb hb' R3 (IsRange.new ..)) (fun it s4 hq => codeAny_mono hq fun r s5 hr => ?_) fun _ _ x => x.elim
  obtain ⟨rfl, ρ', P⟩ := hr
  exact ⟨ρ', P3.trans P, rfl⟩
theorem ex_forRange1 {x : Str} {px p1 p2 pos : Pos} {args : List Expr} {body : List Stmt} {b : Int} {loc' : Locs} {cs' cs1 : List AC} (hf : Ev k sc loc cs (.Name "range" p1) (.stat (.type "range")) cs) (hargs : EvL k sc loc cs args [.int b] cs1) (hx : sc.names.lookup x = some .local)
    (h : Fo k sc x body (fun _ => True) (rangeL 0 b) loc cs1 loc' cs') (hb : -1000000 ≤ b) (hb' : b ≤ 1000000) (he : ∀ env, starEach args env = args.map fun e => (false, eval e env))
    (hs : ∀ env x, foldedSetIterable (.Call (.Name "range" p1) args [] p2) env x = pure x) : Ex k sc loc cs (.For (.Name x px) (.Call (.Name "range" p1) args [] p2) body [] pos) .next loc' cs' := by
  intro w c ρ s O R
  refine wpAny_For (wpAny_Call_NameR (wpAny_mono (hf w c ρ s O R) (fun f' s1 hq => ?_) fun _ _ x => x.elim)) (hs _)
  obtain ⟨ρ1, P1, rfl⟩ := hq
  refine PySem.callWith_type (backTo_plain _ _ _ (he _)) (wpAny_callArgs (wpAny_mono (hargs w c ρ1 s1 p2 O P1.rep) (fun vs s2 hq => ?_) fun _ _ x => x.elim) (he _))
  refine hideG fun Gq hGq => ?_
  obtain ⟨ρ2, P2, V2⟩ := hq
  obtain ⟨_, rfl, t, rfl⟩ := V2.one
  refine hGq ?_
  clear hGq Gq
  refine call_range_1 ?_
  have R3 := P2.rep.heap (h' := s2.heap.push { cls := .type "range", data := .fields #[.int 0 s2.toks, .int b t, .int 1 (s2.toks + 1)] }) (tk := s2.toks + 1 + 1) fun b o e => Heap.get?_push_of_some _ e
  have P3 := (P1.trans P2).trans ⟨List.prefix_refl _, TK.of_keeps (fun b o e => Heap.get?_push_of_some _ e), R3⟩
  refine wpAny_mono (for_range O (px := px) hx h (by lia) (by lia) hb hb' R3 (IsRange.new ..)) (fun it s4 hq => codeAny_mono hq fun r s5 hr => ?_) fun _ _ x => x.elim
  obtain ⟨rfl, ρ', P⟩ := hr
  exact ⟨ρ', P3.trans P, rfl⟩

theorem ex_forList {x : Str} {px pos : Pos} {iter : Expr} {body : List Stmt} {id : Nat} {items : List AV} {ac : AC} {loc' : Locs} {cs' cs1 : List AC} (hi : Ev k sc loc cs iter (.obj id) cs1) (hx : sc.names.lookup x = some .local)
    (hac : ∀ (P : Params) ρ s as, CellAt P ρ s ac as → ∃ a vs, as = [a] ∧ s.heap.IsList a (List.toArray vs) ∧ vs.length = items.length ∧ ∀ (i : Nat) v, items[i]? = some v → ∃ v', vs[i]? = some v' ∧ VRep ρ s.heap v v')
    (h : Fo k sc x body (fun cs => cs[id]? = some ac) items loc cs1 loc' cs')
    (hs : ∀ env x, foldedSetIterable iter env x = pure x) : Ex k sc loc cs (.For (.Name x px) iter body [] pos) .next loc' cs' := by
  intro w c ρ s O R
  refine wpAny_For (wpAny_mono (hi w c ρ s O R) (fun f' s1 hq => ?_) fun _ _ x => x.elim) (hs _)
  refine hideG fun Gq hGq => ?_
  obtain ⟨ρ1, P1, a, r, ha, rfl⟩ := hq
  have hK := h.here
  obtain ⟨a', vs, e, hl, _, _⟩ := hac _ _ _ _ (P1.rep.cells _ _ _ hK ha)
  refine hGq ?_
  clear hGq Gq
  cases e
  refine wpAny_pyIter_list hl ?_
  have R2 := P1.rep.addIce (s' := { s1 with heap := s1.heap.push { cls := .type "list_iterator", data := .fields #[.ref a, .int 0 0] } }) (Heap.get?_push_size _ rfl) (Nat.le_refl _) (fun b o e => Heap.get?_push_of_some _ e) (fun _ _ e => e) P1.rep.stat.bare rfl
  have tk0 : TK s1.heap (s1.heap.push { cls := .type "list_iterator", data := .fields #[.ref a, .int 0 0] }) := TK.of_keeps fun b o e => Heap.get?_push_of_some _ e
  refine codeAny_mono (for_core O (P := fun i o => o.cls = .type "list_iterator" ∧ o.data = .fields #[.ref a, .int i 0]) ?_ ?_ ?_ hx h ⟨rfl, rfl⟩ R2) (fun r s' hq => ?_)
  · rintro i o ⟨h1, _⟩; rw [h1]; simp
  · rintro i v loc1 cs1 ρ2 s2 o Q E hi' ⟨h1, h2⟩ hK2 hp R3 q
    have hat := R3.frz _ (.head _)
    refine hideG fun Gq hGq => ?_
    obtain ⟨a', vs', e, hl', hlen, hv⟩ := hac _ _ _ _ (R3.cells _ _ _ hK2 (prefix_get hp ha))
    refine hGq ?_
    clear hGq Gq
    cases e
    obtain ⟨v', hv1, hv2⟩ := hv i v hi'
    refine wpAny_pyNext_list_item (i := i) ⟨o, hat, h1, h2⟩ hl' (by simpa using hv1) fun h' hit hsb => ?_
    refine hideG fun Gq hGq => ?_
    obtain ⟨o', g1, g2, g3⟩ := hit
    refine hGq ?_
    clear hGq Gq
    exact q _ o' _ s2.toks hv2 ⟨g2, by rw [g3]⟩ g1 hsb.extBut
  · rintro loc1 cs1 ρ2 s2 o Q E ⟨h1, h2⟩ hK2 hp R3 q
    have hat := R3.frz _ (.head _)
    refine hideG fun Gq hGq => ?_
    obtain ⟨a', vs', e, hl', hlen, hv⟩ := hac _ _ _ _ (R3.cells _ _ _ hK2 (prefix_get hp ha))
    refine hGq ?_
    clear hGq Gq
    cases e
    exact wpAny_pyNext_list_end O.hd (i := items.length) ⟨o, hat, h1, h2⟩ hl' (by simp; lia) fun h' hx' => q h' s2.toks hx'
  · obtain ⟨e, ρ', P⟩ := hq
    subst e
    exact ⟨ρ', P1.trans ⟨P.pre, tk0.trans P.tk, P.rep⟩, rfl⟩
theorem ac_intL (l : List Int) (P : Params) (ρ s as) (h : CellAt P ρ s (.intL l) as) : ∃ a vs, as = [a] ∧ s.heap.IsList a (List.toArray vs) ∧ vs.length = (l.map AV.int).length ∧ ∀ (i : Nat) v, (l.map AV.int)[i]? = some v → ∃ v', vs[i]? = some v' ∧ VRep ρ s.heap v v' := by
  refine hideG fun Gq hGq => ?_
  obtain ⟨a, vs, rfl, x, y⟩ := h
  refine hGq ?_
  clear hGq Gq
  refine ⟨a, vs, rfl, x.isList, by simp [y.length], fun i v e => ?_⟩
  rw [List.getElem?_map] at e
  cases hz : l[i]? with
  | none => rw [hz] at e; cases e
  | some z =>
    rw [hz] at e; cases e
    obtain ⟨t, ht⟩ := y.get _ _ hz
    exact ⟨_, ht, t, rfl⟩
theorem ac_strL (l : List (Option Str)) (P : Params) (ρ s as) (h : CellAt P ρ s (.strL l) as) : ∃ a vs, as = [a] ∧ s.heap.IsList a (List.toArray vs) ∧ vs.length = (l.map ofO).length ∧ ∀ (i : Nat) v, (l.map ofO)[i]? = some v → ∃ v', vs[i]? = some v' ∧ VRep ρ s.heap v v' := by
  refine hideG fun Gq hGq => ?_
  obtain ⟨a, vs, rfl, x, y⟩ := h
  refine hGq ?_
  clear hGq Gq
  refine ⟨a, vs, rfl, x.isList, by simp [y.length], fun i v e => ?_⟩
  rw [List.getElem?_map] at e
  cases hz : l[i]? with
  | none => rw [hz] at e; cases e
  | some z =>
    rw [hz] at e; cases e
    obtain ⟨v', ht, hq⟩ := ostrs_get y hz
    refine ⟨v', ht, ?_⟩
    rcases hq with ⟨rfl, rfl⟩ | ⟨x, t, rfl, rfl⟩
    · rfl
    · exact ⟨t, rfl⟩
end
end
section
open PySem PySem.W PyProof.Rows PySem.Calls

theorem meth_any {K : Frag} {prog : Program} {w : World} {A : Around} {E : Value → Shared → Prop} {s : Shared} {x C : Addr} {ox : Obj} {od : Option Obj} {pl : Sem Bool} {Q : Value × List Value → Shared → Prop} {name : Str} {f ft : Value} {ga : String}
    (X : K.In s.heap) (I : InstAt s.heap x ox C od) (hga : findIn K (.ref C) "__getattribute__" = some (some (.builtin ga))) (hcan : (Manifest.canonical ga != "object.__getattribute__") = false) (hk : findIn K (.ref C) "__getattr__" = some none)
    (hf : findIn K (.ref C) name = some (some f)) (ht : typeIn K f = some ft) (hft : (ft != .type "function" && ft != .type "method_descriptor" && ft != .type "wrapper_descriptor") = false) (hs : shadowIn od name = some false) (h : Q (f, [.ref x]) s) :
    wpAny (model prog w) A (getMethod (.ref x) name pl) Q E s := by
  unfold getMethod specialOf
  refine wpAny_bind (wpAny_bind (I.type.here ((looks_findIn X hga).here ?_)))
  dsimp only
  rw [hcan, if_neg (by decide)]
  refine wpAny_bind (wpAny_bind (I.type.here ((looks_findIn X hk).here ?_)))
  refine wpAny_bind (wpAny_bind (I.type.here ((looks_findIn X hf).here (wpAny_bind ((looks_typeIn X ht).here ?_)))))
  rw [if_neg (by rw [hft]; decide)]
  refine wpAny_bind (wpAny_loadPart I.at_ ?_)
  have hd := I.dict
  cases e : ox.dict with
  | none => exact wpAny_bind (wpAny_rule (wpAny_pure h))
  | some dx =>
    cases od with
    | none => rw [e] at hd; exact hd.elim
    | some o =>
      rw [e] at hd
      obtain ⟨r, a, b⟩ := Option.map_eq_some_iff.mp hs
      refine wpAny_bind (wpAny_bind (wpAny_loadPart hd ?_))
      rw [nsLook_of a]
      refine wpAny_pure ?_
      rw [b]
      exact wpAny_bind (wpAny_rule (wpAny_pure h))

section
variable {k : Nat} {sc : Scope} {loc : Locs} {cs : List AC}

noncomputable def Meth (cs : List AC) (i : Nat) (name : Str) (f : Value) : Prop := ∀ (w : World) (c : Cx w) ρ loc s a r, Rep c ρ loc cs s → ρ[i]? = some (a :: r) →
  ∀ (A : Around) pl (Q : Value × List Value → Shared → Prop) E, Q (f, [.ref a]) s → wpAny (MD w) A (getMethod (.ref a) name pl) Q E s

noncomputable abbrev accD (P : Params) (t2 : Tok) (init : Int) (t : Tok) (n2 : Nat) : Obj := { cls := .type "dict", data := .dict #[⟨PyData.keyHash P "_initial_size", .str "_initial_size" t2, .int init t⟩] n2 }
theorem accInst {w : World} {c : Cx w} {ρ s} (R : Rep c ρ loc cs s) {i : Nat} {l init a r} (hc : cs[i]? = some (.acc l init)) (ha : ρ[i]? = some (a :: r)) :
    ∃ d vs n t t2 n2, r = [d] ∧ s.heap.get? a = some ⟨.ref 193, some d, .seq (List.toArray vs) n, #[]⟩ ∧ s.heap.get? d = some (accD w.params t2 init t n2) ∧ PairsAre s.heap vs l := by
  refine hideG fun Gq hGq => ?_
  obtain ⟨a', d, vs, n, t, e, x, y, z⟩ := R.cells _ _ _ hc ha
  refine hGq ?_
  clear hGq Gq
  cases e
  refine hideG fun Gq hGq => ?_
  obtain ⟨es, n2, hd, h2⟩ := y
  refine hGq ?_
  clear hGq Gq
  cases h2 with
  | cons h0 h1 =>
    cases h1
    obtain ⟨t2, rfl⟩ := h0
    exact ⟨d, vs, n, t, t2, n2, rfl, x, hd, z⟩
theorem accInstAt {P : Params} {h : Heap} {a d : Addr} {vs n t2 init t n2} (x : h.get? a = some ⟨.ref 193, some d, .seq vs n, #[]⟩) (y : h.get? d = some (accD P t2 init t n2)) : InstAt h a ⟨.ref 193, some d, .seq vs n, #[]⟩ 193 (some (accD P t2 init t n2)) :=
  ⟨x, rfl, rfl, y⟩
theorem acc_ga (P : Params) : findIn (Kt P) (.ref 193) "__getattribute__" = some (some (.builtin "list.__getattribute__")) := by kernel_rfl
theorem acc_gt (P : Params) : findIn (Kt P) (.ref 193) "__getattr__" = some none := by kernel_rfl
theorem can_list : (Manifest.canonical "list.__getattribute__" != "object.__getattribute__") = false := by decide +kernel
theorem meth_acc {i : Nat} {l init} {name : Str} {f ft : Value} (hc : cs[i]? = some (.acc l init)) (hf : ∀ P, findIn (Kt P) (.ref 193) name = some (some f)) (ht : ∀ P, typeIn (Kt P) f = some ft)
    (hft : (ft != .type "function" && ft != .type "method_descriptor" && ft != .type "wrapper_descriptor") = false) (hs : ∀ P t2 t n2, shadowIn (some (accD P t2 init t n2)) name = some false) : Meth cs i name f := by
  intro w c ρ loc s a r R ha A pl Q E q
  refine hideG fun Gq hGq => ?_
  obtain ⟨d, vs, n, t, t2, n2, rfl, x, y, z⟩ := accInst R hc ha
  refine hGq ?_
  clear hGq Gq
  exact meth_any R.stat.kt (accInstAt x y) (acc_ga _) can_list (acc_gt _) (hf _) (ht _) hft (hs _ _ _ _) q

theorem m_push {i l init} (hc : cs[i]? = some (.acc l init)) : Meth cs i "push" (.ref 137) := meth_acc hc (fun P => by kernel_rfl) (fun P => by kernel_rfl) (ft := .type "function") rfl (fun P t2 t n2 => by kernel_rfl)
theorem m_pop {i l init} (hc : cs[i]? = some (.acc l init)) : Meth cs i "pop" (.ref 153) := meth_acc hc (fun P => by kernel_rfl) (fun P => by kernel_rfl) (ft := .type "function") rfl (fun P t2 t n2 => by kernel_rfl)
theorem m_reset {i l init} (hc : cs[i]? = some (.acc l init)) : Meth cs i "reset" (.ref 175) := meth_acc hc (fun P => by kernel_rfl) (fun P => by kernel_rfl) (ft := .type "function") rfl (fun P t2 t n2 => by kernel_rfl)
theorem m_onlyws {i l init} (hc : cs[i]? = some (.acc l init)) : Meth cs i "is_onlyws" (.ref 182) := meth_acc hc (fun P => by kernel_rfl) (fun P => by kernel_rfl) (ft := .type "function") rfl (fun P t2 t n2 => by kernel_rfl)
theorem m_count {i l init} (hc : cs[i]? = some (.acc l init)) : Meth cs i "part_count" (.ref 190) := meth_acc hc (fun P => by kernel_rfl) (fun P => by kernel_rfl) (ft := .type "function") rfl (fun P t2 t n2 => by kernel_rfl)
theorem m_append {i l init} (hc : cs[i]? = some (.acc l init)) : Meth cs i "append" (.builtin "list.append") := meth_acc hc (fun P => by kernel_rfl) (fun P => by kernel_rfl) (ft := .type "method_descriptor") rfl (fun P t2 t n2 => by kernel_rfl)

noncomputable abbrev fmKv (ml : Int) (ws : Str) (t1 t2 t3 : Tok) (vsp : Value) (la aa : Addr) : List (Str × Value) := [("_maxlen", .int ml t1), ("_continuation_ws", .str ws t2), ("_continuation_ws_len", .int ws.length t3), ("_splitchars", vsp), ("_lines", .ref la), ("_current_line", .ref aa)]
noncomputable abbrev fmD (P : Params) (ml : Int) (ws : Str) (t1 t2 t3 : Tok) (vsp : Value) (la aa : Addr) (u1 u2 u3 u4 u5 u6 : Tok) (n2 : Nat) : Obj := { cls := .type "dict", data := .dict #[⟨PyData.keyHash P "_maxlen", .str "_maxlen" u1, .int ml t1⟩, ⟨PyData.keyHash P "_continuation_ws", .str "_continuation_ws" u2, .str ws t2⟩, ⟨PyData.keyHash P "_continuation_ws_len", .str "_continuation_ws_len" u3, .int ws.length t3⟩, ⟨PyData.keyHash P "_splitchars", .str "_splitchars" u4, vsp⟩, ⟨PyData.keyHash P "_lines", .str "_lines" u5, .ref la⟩, ⟨PyData.keyHash P "_current_line", .str "_current_line" u6, .ref aa⟩] n2 }
theorem fmInst {w : World} {c : Cx w} {ρ s} (R : Rep c ρ loc cs s) {i : Nat} {ml ws li ai a r} (hc : cs[i]? = some (.fm ml ws li ai)) (ha : ρ[i]? = some (a :: r)) :
    ∃ d t1 t2 t3 vsp la lr aa ar u1 u2 u3 u4 u5 u6 n2, r = [d] ∧ s.heap.get? a = some ⟨.ref 109, some d, .plain, #[]⟩ ∧ s.heap.get? d = some (fmD w.params ml ws t1 t2 t3 vsp la aa u1 u2 u3 u4 u5 u6 n2) ∧ ρ[li]? = some (la :: lr) ∧ ρ[ai]? = some (aa :: ar) := by
  refine hideG fun G hG => ?_
  obtain ⟨a', d, t1, t2, t3, vsp, la, lr, aa, ar, e, x, y, z, es, n2, hd, h2⟩ := R.cells _ _ _ hc ha
  cases e
  cases h2 with
  | cons h0 h2 => cases h2 with
    | cons h1 h2 => cases h2 with
      | cons h3 h2 => cases h2 with
        | cons h4 h2 => cases h2 with
          | cons h5 h2 => cases h2 with
            | cons h6 h2 =>
              cases h2
              refine hideG fun Gq hGq => ?_
              obtain ⟨u1, rfl⟩ := h0
              obtain ⟨u2, rfl⟩ := h1
              obtain ⟨u3, rfl⟩ := h3
              obtain ⟨u4, rfl⟩ := h4
              obtain ⟨u5, rfl⟩ := h5
              obtain ⟨u6, rfl⟩ := h6
              refine hGq ?_
              clear hGq Gq
              exact hG ⟨d, t1, t2, t3, vsp, la, lr, aa, ar, u1, u2, u3, u4, u5, u6, n2, rfl, x, hd, y, z⟩
theorem fm_ga (P : Params) : findIn (Kt P) (.ref 109) "__getattribute__" = some (some (.builtin "object.__getattribute__")) := by kernel_rfl
theorem fm_gt (P : Params) : findIn (Kt P) (.ref 109) "__getattr__" = some none := by kernel_rfl
theorem meth_fm {i : Nat} {ml ws li ai} {name : Str} {f ft : Value} (hc : cs[i]? = some (.fm ml ws li ai)) (hf : ∀ P, findIn (Kt P) (.ref 109) name = some (some f)) (ht : ∀ P, typeIn (Kt P) f = some ft)
    (hft : (ft != .type "function" && ft != .type "method_descriptor" && ft != .type "wrapper_descriptor") = false) (hs : ∀ P t1 t2 t3 vsp la aa u1 u2 u3 u4 u5 u6 n2, shadowIn (some (fmD P ml ws t1 t2 t3 vsp la aa u1 u2 u3 u4 u5 u6 n2)) name = some false) : Meth cs i name f := by
  intro w c ρ loc s a r R ha A pl Q E q
  refine hideG fun Gq hGq => ?_
  obtain ⟨d, t1, t2, t3, vsp, la, lr, aa, ar, u1, u2, u3, u4, u5, u6, n2, rfl, x, y, _, _⟩ := fmInst R hc ha
  refine hGq ?_
  clear hGq Gq
  exact meth_any R.stat.kt ⟨x, rfl, rfl, y⟩ (fm_ga _) F.canon_object_ga (fm_gt _) (hf _) (ht _) hft (hs _ _ _ _ _ _ _ _ _ _ _ _ _ _) q
theorem m_newline {i ml ws li ai} (hc : cs[i]? = some (.fm ml ws li ai)) : Meth cs i "newline" (.ref 71) := meth_fm hc (fun P => by kernel_rfl) (fun P => by kernel_rfl) (ft := .type "function") rfl (by intros; kernel_rfl)
theorem m_feed {i ml ws li ai} (hc : cs[i]? = some (.fm ml ws li ai)) : Meth cs i "feed" (.ref 85) := meth_fm hc (fun P => by kernel_rfl) (fun P => by kernel_rfl) (ft := .type "function") rfl (by intros; kernel_rfl)
theorem m_chunk {i ml ws li ai} (hc : cs[i]? = some (.fm ml ws li ai)) : Meth cs i "_append_chunk" (.ref 106) := meth_fm hc (fun P => by kernel_rfl) (fun P => by kernel_rfl) (ft := .type "function") rfl (by intros; kernel_rfl)
theorem m_trans {i ml ws li ai} (hc : cs[i]? = some (.fm ml ws li ai)) : Meth cs i "add_transition" (.ref 78) := meth_fm hc (fun P => by kernel_rfl) (fun P => by kernel_rfl) (ft := .type "function") rfl (by intros; kernel_rfl)
theorem m_str {i ml ws li ai} (hc : cs[i]? = some (.fm ml ws li ai)) : Meth cs i "_str" (.ref 57) := meth_fm hc (fun P => by kernel_rfl) (fun P => by kernel_rfl) (ft := .type "function") rfl (by intros; kernel_rfl)
theorem m_maxl {i ml ws li ai} (hc : cs[i]? = some (.fm ml ws li ai)) : Meth cs i "_maxlengths" (.ref 92) := meth_fm hc (fun P => by kernel_rfl) (fun P => by kernel_rfl) (ft := .type "function") rfl (by intros; kernel_rfl)
end
end
section
open PySem PySem.W PyProof.Rows PySem.Calls

section
variable {K : Frag} {prog : Program} {w : World} {A : Around} {E : Value → Shared → Prop} {s : Shared} {x C : Addr} {ox : Obj} {od : Option Obj}

theorem looks_isInst {M : Model} {h : Heap} (X : K.In h) (I : InstAt h x ox C od) {b : Value} {r : Bool} (e : mroIn K C b = some r) : Looks M h (isInstance (.ref x) b) r :=
  (I.type (M := M)).andThen (looks_mroIn X e)

theorem sub_call {id owner n : String} {B : Builtin} {rest : List Value} {Q : Value → Shared → Prop} (X : K.In s.heap) (I : InstAt s.heap x ox C od) (hm : mroIn K C (.type owner) = some true)
    (hsplit : splitId id = some (owner, n)) (hkind : (Manifest.find? owner).bind (·.attrs.lookup n) = some .slot ∨ (Manifest.find? owner).bind (·.attrs.lookup n) = some .method)
    (hp : plainId id = true) (hb : entryFor table id = some B) (ha : argsOk id ⟨.ref x :: rest, []⟩)
    (h : wpAny (model prog w) A.in1 (B ⟨.ref x :: rest, []⟩) (fun fin s' => match fin with | .done (.ret v) => Q v s' | _ => False) E s) : wpAny (model prog w) A (call (.builtin id) (.ref x :: rest)) Q E s := by
  have hk : builtinKind id = (Manifest.find? owner).bind (·.attrs.lookup n) := by simp only [builtinKind, hsplit]
  refine wpAny_call (codeAny_call_builtin hp hb ?_)
  have fin : wpAny (model prog w) A.in1 (B ⟨.ref x :: rest, []⟩) (fun fin s' => match fin with
      | .done f => (match (Except.ok f : Result) with | .ok (.ret v) => Q v s' | .ok _ => False | .error e => E e s')
      | .again c' => c'.quiet = true ∧ codeAny (model prog w) A c' (fun r s' => match r with | .ok (.ret v) => Q v s' | .ok _ => False | .error e => E e s') s') E s := by
    refine wpAny_mono h (fun f s' hf => ?_) fun _ _ z => z
    rcases f with (_ | _ | _ | _) | _ <;> first | exact hf | exact hf.elim
  have key : wpAny (model prog w) A.in1 (checkBuiltinCall id ⟨.ref x :: rest, []⟩) (fun _ s1 => s1 = s) E s := by
    rcases hkind with h | h <;>
    · simp only [checkBuiltinCall, hk, h, hsplit]
      refine wpAny_bind ((looks_isInst X I hm).here ?_)
      simp only [Bool.not_true, Bool.false_eq_true, if_false]
      cases hsig : Manifest.signature? id with
      | none => exact wpAny_pure rfl
      | some sig =>
        simp only [argsOk, hsig] at ha
        have h2 : Bind.checkArgs id sig ⟨.ref x :: rest, []⟩ = pure () := ha
        show wpAny _ _ (Bind.checkArgs id sig ⟨.ref x :: rest, []⟩) _ E s
        rw [h2]; exact wpAny_pure rfl
  refine wpAny_mono key (fun _ s1 e => ?_) fun _ _ z => z
  subst e
  exact fin

theorem sub_attr {name : Str} {expr : Bool} {v : Value} {Q : Value → Shared → Prop} (X : K.In s.heap) (I : InstAt s.heap x ox C od) (hm : mroIn K C (.type "list") = some true) (hga : findIn K (.ref C) "__getattribute__" = some (some (.builtin "list.__getattribute__")))
    (hk : findIn K (.ref C) "__getattr__" = some none) (hf : findObj K C od name = some (.value v)) (hh : handedIn v = true) (h : Q v { s with toks := s.toks + 1 }) : wpAny (model prog w) A (getAttr (.ref x) name expr) Q E s := by
  obtain ⟨hp, g, d, t, os⟩ := s
  have L0 := I.type (M := model prog w)
  have L1 := looks_findIn (M := model prog w) X hga
  have L2 := looks_findIn (M := model prog w) X hk
  unfold getAttr getAttrBy
  refine wpAny_bind (wpAny_mkText (wpAny_holding (wpAny_bind (L0.at (wpAny_bind (L1.at ?_))))))
  show wpAny _ _ (if (true && (Value.builtin "list.__getattribute__" == .builtin "object.__getattribute__")) = true then _ else _) _ _ _
  rw [if_neg (by decide +kernel)]
  unfold getAttrByItsOwn hookBefore callGetattribute boundAndCalled
  refine wpAny_bind (L2.at ?_)
  refine wpAny_bind (wpAny_attempt (wpAny_holding ?_))
  have e0 : (expr && onTheHeap (Value.builtin "list.__getattribute__")) = false := Bool.and_false expr
  rw [e0]
  show wpAny _ _ (bindSpecial (.builtin "list.__getattribute__") (.ref x) >>= _) _ _ _
  refine wpAny_bind (wpAny_of_eq (PySem.F.slot_list_getattribute.bind _) ?_)
  refine sub_call (n := "__getattribute__") X I hm (by decide +kernel) (.inl (by decide +kernel)) PySem.F.slot_list_getattribute.plain am_entry_list_getattribute (PySem.F.args_list_getattribute_2 _ _) ?_
  have L3 := looks_find (M := model prog w) X I hf
  unfold Builtin.«object.__getattribute__»
  refine wpAny_bind (wpAny_pure (wpAny_bind (wpAny_pure (wpAny_bind (L0.at (wpAny_bind (L3.at ?_)))))))
  refine wpAny_pure ?_
  show wpAny _ _ (handedOut v) _ _ _
  rw [handedOut_of hh]; exact wpAny_pure h
end
end
section
open PySem PySem.W PyProof.Rows PySem.Calls

section
variable {k : Nat} {sc : Scope} {loc : Locs} {cs : List AC}

noncomputable def Attr (cs : List AC) (i : Nat) (name : Str) (v : AV) : Prop := ∀ (w : World) (c : Cx w) ρ loc s a r, Rep c ρ loc cs s → ρ[i]? = some (a :: r) →
  ∀ (A : Around) (Q : Value → Shared → Prop) E, (∀ v' tk, VRep ρ s.heap v v' → Q v' { s with toks := tk }) → wpAny (MD w) A (getAttr (.ref a) name true) Q E s

theorem ev_attr {x : Str} {xp : Pos} {name : Str} {pos : Pos} {i : Nat} {v : AV} (h : Ev k sc loc cs (.Name x xp) (.obj i) cs) (ha : Attr cs i name v) : Ev k sc loc cs (.Attribute (.Name x xp) name pos) v cs := by
  intro w c ρ s O R
  refine Attribute_name (wpAny_mono (h w c ρ s O R) (fun o s1 hq => ?_) fun _ _ x => x.elim)
  refine hideG fun Gq hGq => ?_
  obtain ⟨ρ1, P1, a, r, e, rfl⟩ := hq
  refine hGq ?_
  clear hGq Gq
  exact ha w c ρ1 loc s1 a r P1.rep e c.A _ _ fun v' tk q => ⟨ρ1, P1.trans (.tok P1.rep tk), q⟩

theorem at_init {i l init} (hc : cs[i]? = some (.acc l init)) : Attr cs i "_initial_size" (.int init) := by
  intro w c ρ loc s a r R ha A Q E q
  refine hideG fun Gq hGq => ?_
  obtain ⟨d, vs, n, t, t2, n2, rfl, x, y, z⟩ := accInst R hc ha
  refine hGq ?_
  clear hGq Gq
  exact sub_attr R.stat.kt (accInstAt x y) (by kernel_rfl) (acc_ga _) (acc_gt _) (v := .int init t) (by kernel_rfl) rfl (q _ _ ⟨t, rfl⟩)
theorem at_fm {i : Nat} {ml ws li ai} {name : Str} {v : AV} (hc : cs[i]? = some (.fm ml ws li ai))
    (hs : ∀ P t1 t2 t3 vsp la aa u1 u2 u3 u4 u5 u6 n2, ∃ v', findObj (Kt P) 109 (some (fmD P ml ws t1 t2 t3 vsp la aa u1 u2 u3 u4 u5 u6 n2)) name = some (.value v') ∧ handedIn v' = true ∧ ∀ ρ h lr ar, ρ[li]? = some (la :: lr) → ρ[ai]? = some (aa :: ar) → VRep ρ h v v') : Attr cs i name v := by
  intro w c ρ loc s a r R ha A Q E q
  refine hideG fun Gq hGq => ?_
  obtain ⟨d, t1, t2, t3, vsp, la, lr, aa, ar, u1, u2, u3, u4, u5, u6, n2, rfl, x, y, e1, e2⟩ := fmInst R hc ha
  obtain ⟨v', h1, h2, h3⟩ := hs w.params t1 t2 t3 vsp la aa u1 u2 u3 u4 u5 u6 n2
  refine hGq ?_
  clear hGq Gq
  exact get_value R.stat.kt ⟨x, rfl, rfl, y⟩ (fm_ga _) h1 h2 (q _ _ (h3 _ _ _ _ e1 e2))
theorem at_maxlen {i ml ws li ai} (hc : cs[i]? = some (.fm ml ws li ai)) : Attr cs i "_maxlen" (.int ml) := at_fm hc fun P t1 t2 t3 vsp la aa u1 u2 u3 u4 u5 u6 n2 => ⟨.int ml t1, by kernel_rfl, rfl, fun _ _ _ _ _ _ => ⟨_, rfl⟩⟩
theorem at_ws {i ml ws li ai} (hc : cs[i]? = some (.fm ml ws li ai)) : Attr cs i "_continuation_ws" (.str ws) := at_fm hc fun P t1 t2 t3 vsp la aa u1 u2 u3 u4 u5 u6 n2 => ⟨.str ws t2, by kernel_rfl, rfl, fun _ _ _ _ _ _ => ⟨_, rfl⟩⟩
theorem at_wslen {i ml ws li ai} (hc : cs[i]? = some (.fm ml ws li ai)) : Attr cs i "_continuation_ws_len" (.int ws.length) := at_fm hc fun P t1 t2 t3 vsp la aa u1 u2 u3 u4 u5 u6 n2 => ⟨.int ws.length t3, by kernel_rfl, rfl, fun _ _ _ _ _ _ => ⟨_, rfl⟩⟩
theorem at_lines {i ml ws li ai} (hc : cs[i]? = some (.fm ml ws li ai)) : Attr cs i "_lines" (.obj li) := at_fm hc fun P t1 t2 t3 vsp la aa u1 u2 u3 u4 u5 u6 n2 => ⟨.ref la, by kernel_rfl, rfl, fun _ _ lr _ e _ => ⟨la, lr, e, rfl⟩⟩
theorem at_line {i ml ws li ai} (hc : cs[i]? = some (.fm ml ws li ai)) : Attr cs i "_current_line" (.obj ai) := at_fm hc fun P t1 t2 t3 vsp la aa u1 u2 u3 u4 u5 u6 n2 => ⟨.ref aa, by kernel_rfl, rfl, fun _ _ _ ar _ e => ⟨aa, ar, e, rfl⟩⟩

theorem ev_method {o : Expr} {name : Str} {apos pos : Pos} {args : List Expr} {i : Nat} {f : Value} {avs : List AV} {v cs1 cs2 cs3} {pl : Env → Sem Bool} (h : Ev k sc loc cs o (.obj i) cs1) (hm : Meth cs1 i name f) (ha : EvL k sc loc cs1 args avs cs2)
    (hc : Cl k cs2 f (.obj i :: avs) v cs3) (hcal : Callee f) (hargs : ∀ env, starEach args env = args.map fun e => (false, eval e env))
    (he : ∀ env, eval (.Call (.Attribute o name apos) args [] pos) env = (do
      let ov ← eval o env
      standAt apos.atName
      let (f, first) ← holding [ov] (getMethod ov name (pl env))
      callWith pos f first (backTo pos (starEach args env)) (backToKw pos (keywordEach [] env)))) : Ev k sc loc cs (.Call (.Attribute o name apos) args [] pos) v cs3 := by
  intro w c ρ s O R
  refine methodCall_KW (pl := pl c.env) (wpAny_mono (h w c ρ s O R) (fun ov s1 hq => ?_) fun _ _ x => x.elim) (he _)
  refine hideG fun Gq hGq => ?_
  obtain ⟨ρ1, P1, a, r, e, rfl⟩ := hq
  refine hGq ?_
  clear hGq Gq
  refine hm w c ρ1 loc s1 a r P1.rep e c.A _ _ _ ?_
  have body : wpAny (MD w) c.A (spliced (backTo pos (starEach args c.env))) (fun vs s' => ∃ ρ2, Post c ρ1 s1 loc cs2 s' ρ2 ∧ All2 (VRep ρ2 s'.heap) avs vs) (fun _ _ => False) s1 := ha w c ρ1 s1 pos O P1.rep
  have fin : ∀ (vs : List Value) (s2 : Shared) ρ2, Post c ρ1 s1 loc cs2 s2 ρ2 → All2 (VRep ρ2 s2.heap) avs vs → wpAny (MD w) c.A (call f ([.ref a] ++ vs)) (fun v' s' => ∃ ρ', Post c ρ s loc cs3 s' ρ' ∧ VRep ρ' s'.heap v v') (fun _ _ => False) s2 := by
    intro vs s2 ρ2 P2 V2
    refine wpAny_mono (hc w c ρ2 loc s2 _ sc O P2.rep (.cons ⟨a, r, prefix_get P2.pre e, rfl⟩ V2)) (fun v' s3 h => ?_) fun _ _ x => x
    obtain ⟨ρ3, P3, V3⟩ := h
    exact ⟨ρ3, (P1.trans P2).trans P3, V3⟩
  cases f with
  | builtin id => exact callWith_builtin (backTo_plain _ _ _ (hargs _)) (wpAny_callArgs (wpAny_mono body (fun vs s2 ⟨ρ2, P2, V2⟩ => fin vs s2 ρ2 P2 V2) fun _ _ x => x) (hargs _))
  | type T => exact PySem.callWith_type (backTo_plain _ _ _ (hargs _)) (wpAny_callArgs (wpAny_mono body (fun vs s2 ⟨ρ2, P2, V2⟩ => fin vs s2 ρ2 P2 V2) fun _ _ x => x) (hargs _))
  | ref q =>
    refine hideG fun Gq hGq => ?_
    obtain ⟨oc, od, fd, sl, hat, hnt⟩ := hcal w.params
    refine hGq ?_
    clear hGq Gq
    exact callWith_function (o := ⟨oc, od, .func fd, sl⟩) (fd := fd) (wpAny_callArgs (wpAny_mono body (fun vs s2 ⟨ρ2, P2, V2⟩ => ⟨⟨P2.rep.stat.keep _ _ (c.B.K _ _ hat) hnt, rfl⟩, fin vs s2 ρ2 P2 V2⟩) fun _ _ x => x) (hargs _))
  | _ => exact hcal.elim

theorem PairsAre.snoc {h : Heap} {vs : List Value} {l : List (Str × Str)} (x : PairsAre h vs l) {a : Addr} {p : Str × Str} {t u : Tok} (ht : IsTup h a #[.str p.1 t, .str p.2 u]) : PairsAre h (vs ++ [.ref a]) (l ++ [p]) := by
  induction x with
  | nil => exact .cons ht .nil
  | cons h1 _ ih => exact .cons h1 ih

theorem acc_upd {w : World} {c : Cx w} {ρ s} {i : Nat} {l l' : List (Str × Str)} {init : Int} {a d : Addr} {its : List Value} {n : Nat} {t1 t2 n2} {f : Array Value → Array Value} (R : Rep c ρ loc cs s) (hc : cs[i]? = some (.acc l init)) (ha : ρ[i]? = some [a, d])
    (ho : s.heap.get? a = some ⟨.ref 193, some d, .seq its.toArray n, #[]⟩) (hd : s.heap.get? d = some (accD w.params t2 init t1 n2)) (hp : PairsAre s.heap (f its.toArray).toList l') :
    Post c ρ s loc (cs.set i (.acc l' init)) { s with heap := s.heap.update a (Obj.mapSeq f) } ρ := by
  have hne : d ≠ a := by rintro rfl; rw [ho] at hd; cases hd
  have hat : (s.heap.update a (Obj.mapSeq f)).get? a = some (Obj.mapSeq f ⟨.ref 193, some d, .seq its.toArray n, #[]⟩) := Heap.get?_update_self _ ho rfl
  have hx : Heap.ExtBut a s.heap (s.heap.update a (Obj.mapSeq f)) := (Heap.SameBut.update ..).extBut
  have tk : TK s.heap (s.heap.update a (Obj.mapSeq f)) := TK.of_extBut hx ho (by simp)
  refine R.setCell (s' := { s with heap := s.heap.update a (Obj.mapSeq f) }) ha (.head _) ho (by simp) hx (fun _ _ e => e) R.stat.bare rfl ?_
  obtain ⟨n', en⟩ : ∃ n', Obj.mapSeq f ⟨.ref 193, some d, .seq its.toArray n, #[]⟩ = ⟨.ref 193, some d, .seq (f its.toArray) n', #[]⟩ := ⟨_, rfl⟩
  refine ⟨a, d, (f its.toArray).toList, n', t1, rfl, ?_, ?_, hp.mono tk⟩
  · rw [hat, en]
  · exact ⟨[⟨PyData.keyHash w.params "_initial_size", .str "_initial_size" t2, .int init t1⟩], n2, hx _ _ hne hd, .cons ⟨t2, rfl⟩ .nil⟩

theorem PairsAre.length {h : Heap} {vs : List Value} {l : List (Str × Str)} (x : PairsAre h vs l) : vs.length = l.length := by
  induction x with
  | nil => rfl
  | cons _ _ ih => simp [ih]

theorem cl_accAppend {i : Nat} {l : List (Str × Str)} {init : Int} {x y : Str} (hc : cs[i]? = some (.acc l init)) (hl : l.length ≤ 100000) : Cl k cs (.builtin "list.append") [.obj i, .tupS [x, y]] .none (cs.set i (.acc (l ++ [(x, y)]) init)) := by
  intro w c ρ loc s vs sc O R V
  refine hideG fun Gq hGq => ?_
  obtain ⟨_, _, rfl, ⟨a, r, ha, rfl⟩, ⟨b, us, rfl, ht, hs⟩⟩ := V.two
  obtain ⟨d, its, n, t, t2, n2, rfl, ho, hd, hp⟩ := accInst R hc ha
  refine hGq ?_
  clear hGq Gq
  refine sub_call (owner := "list") (n := "append") R.stat.kt (accInstAt ho hd) (by kernel_rfl) (by decide +kernel) (.inr (by decide +kernel)) slot_list_append.plain entry_list_append (args_list_append _ _) ?_
  show wpAny _ _ (updateSeq a (·.push (.ref b)) >>= fun _ => ret .none) _ _ s
  have hlen := hp.length
  refine wpAny_bind (wpAny_updateSeq ho rfl (wpAny_pure ?_) (by simp [sizeLine_eq]; lia) (by simp [sizeLine_eq]; lia))
  refine hideG fun Gq hGq => ?_
  obtain ⟨x', t', us, rfl, hs'⟩ : ∃ x' t' us', us = .str x' t' :: us' ∧ x' = x ∧ StrsAre us' [y] := by cases hs with | cons _ t h => exact ⟨_, t, _, rfl, rfl, h⟩
  obtain ⟨rfl, hs2⟩ := hs'
  obtain ⟨u', rfl⟩ : ∃ u', us = [.str y u'] := by cases hs2 with | cons _ t h => cases h; exact ⟨t, rfl⟩
  refine hGq ?_
  clear hGq Gq
  refine ⟨ρ, acc_upd R hc ha ho hd ?_, rfl⟩
  show PairsAre _ (its.toArray.push (.ref b)).toList _
  rw [Array.toList_push]
  exact hp.snoc ht
end
end
section
open PySem PySem.W PyProof.Rows PySem.Calls
theorem slot_md_get : Slot "method_descriptor" "__get__" "method_descriptor.__get__" := .of (owner := "method_descriptor") (n := "__get__") (by rw [typeLookup_type, builtinLookup_eq_fast]; kernel_rfl) (by decide +kernel) (by decide +kernel) (by decide +kernel)
  (by first | exact .inl (by decide +kernel) | exact .inr (by decide +kernel)) (by rw [isSubtype_type]; kernel_rfl)
theorem slot_wd_get : Slot "wrapper_descriptor" "__get__" "wrapper_descriptor.__get__" := .of (owner := "wrapper_descriptor") (n := "__get__") (by rw [typeLookup_type, builtinLookup_eq_fast]; kernel_rfl) (by decide +kernel) (by decide +kernel) (by decide +kernel)
  (by first | exact .inl (by decide +kernel) | exact .inr (by decide +kernel)) (by rw [isSubtype_type]; kernel_rfl)
theorem entry_md_get : entryFor table "method_descriptor.__get__" = some Builtin.«method_descriptor.__get__» := entryFor_of_tree (by kernel_rfl)
theorem entry_wd_get : entryFor table "wrapper_descriptor.__get__" = some Builtin.«wrapper_descriptor.__get__» := entryFor_of_tree (by kernel_rfl)
theorem args_md_get (a b c : Value) : argsOk "method_descriptor.__get__" ⟨[a, b, c], []⟩ := by unfold argsOk; kernel_rfl
theorem args_wd_get (a b c : Value) : argsOk "wrapper_descriptor.__get__" ⟨[a, b, c], []⟩ := by unfold argsOk; kernel_rfl
section
variable {K : Frag} {prog : Program} {w : World} {A : Around} {E : Value → Shared → Prop} {h : Heap} {g : Array GenState} {d : Drawn} {t : Nat} {os : OsState} {x C : Addr} {ox : Obj} {od : Option Obj}
theorem md_get {id : String} {Q : Value → Shared → Prop} (X : K.In h) (I : InstAt h x ox C od) (hm : mroIn K C (.type "list") = some true) (hty : typeOf (.builtin id) = pure (.type "method_descriptor")) (hid : ".".intercalate (id.cutAt '.').dropLast = "list") (htc : Manifest.toldItsClass.contains id = false)
   (hq : Q (.ref h.objs.size) ⟨h.push { cls := .type "builtin_function_or_method", data := .fields #[.builtin id, .ref x] }, g, d, t, os⟩) :
   wpAny (model prog w) A (call (.builtin "method_descriptor.__get__") [.builtin id, .ref x, .ref C]) Q E ⟨h, g, d, t, os⟩ := by
  have hT : (⟨h, g, d, t, os⟩ : Shared).TypeIs (.builtin id) "method_descriptor" := hty
  have hM := looks_mroIn (M := model prog w) X hm
  refine wpAny_call_entry slot_md_get hT entry_md_get ?_ (args_md_get _ _ _)
  unfold Builtin.«method_descriptor.__get__»
  repeat (first | (with_reducible refine wpAny_loadPart I.at_ ?_) | (rw [I.cls, hid]; with_reducible refine Looks.at hM ?_) | (rw [htc]) | wp_step | dsimp only)
  all_goals exact ⟨_, rfl, hq⟩
theorem wd_get {id : String} {Q : Value → Shared → Prop} (X : K.In h) (I : InstAt h x ox C od) (hm : mroIn K C (.type "list") = some true) (hty : typeOf (.builtin id) = pure (.type "wrapper_descriptor")) (hid : ".".intercalate (id.cutAt '.').dropLast = "list")
   (hq : Q (.ref h.objs.size) ⟨h.push { cls := .type "method-wrapper", data := .fields #[.builtin id, .ref x] }, g, d, t, os⟩) :
   wpAny (model prog w) A (call (.builtin "wrapper_descriptor.__get__") [.builtin id, .ref x, .ref C]) Q E ⟨h, g, d, t, os⟩ := by
  have hT : (⟨h, g, d, t, os⟩ : Shared).TypeIs (.builtin id) "wrapper_descriptor" := hty
  have hM := looks_mroIn (M := model prog w) X hm
  refine wpAny_call_entry slot_wd_get hT entry_wd_get ?_ (args_wd_get _ _ _)
  unfold Builtin.«wrapper_descriptor.__get__»
  repeat (first | (with_reducible refine wpAny_loadPart I.at_ ?_) | (rw [I.cls, hid]; with_reducible refine Looks.at hM ?_) | wp_step | dsimp only)
  all_goals exact ⟨_, rfl, hq⟩

noncomputable def Bound (id dt gid bt : String) : Prop := typeOf (.builtin id) = pure (.type dt) ∧ typeLookup (.type dt) "__get__" = pure (some (.builtin gid)) ∧
  ∀ (K : Frag) (prog : Program) (w : World) (A : Around) (E : Value → Shared → Prop) (h : Heap) (g : Array GenState) (d : Drawn) (t : Nat) (os : OsState) (x C : Addr) (ox : Obj) (od : Option Obj) (Q : Value → Shared → Prop), K.In h → InstAt h x ox C od → mroIn K C (.type "list") = some true →
    Q (.ref h.objs.size) ⟨h.push { cls := .type bt, data := .fields #[.builtin id, .ref x] }, g, d, t, os⟩ → wpAny (model prog w) A (call (.builtin gid) [.builtin id, .ref x, .ref C]) Q E ⟨h, g, d, t, os⟩
theorem bound_pop : Bound "list.pop" "method_descriptor" "method_descriptor.__get__" "builtin_function_or_method" :=
  ⟨PySem.F.type_list_pop, slot_md_get.lookup, fun K prog w A E h g d t os x C ox od Q X I hm hq => md_get X I hm PySem.F.type_list_pop (by decide +kernel) (by decide +kernel) hq⟩
theorem type_len : typeOf (.builtin "list.__len__") = pure (.type "wrapper_descriptor") := by show builtinType _ = _; rw [builtinType_eq_fast]; kernel_rfl
theorem type_init : typeOf (.builtin "list.__init__") = pure (.type "wrapper_descriptor") := by show builtinType _ = _; rw [builtinType_eq_fast]; kernel_rfl
theorem bound_len : Bound "list.__len__" "wrapper_descriptor" "wrapper_descriptor.__get__" "method-wrapper" :=
  ⟨type_len, slot_wd_get.lookup, fun K prog w A E h g d t os x C ox od Q X I hm hq => wd_get X I hm type_len (by decide +kernel) hq⟩
theorem bound_init : Bound "list.__init__" "wrapper_descriptor" "wrapper_descriptor.__get__" "method-wrapper" :=
  ⟨type_init, slot_wd_get.lookup, fun K prog w A E h g d t os x C ox od Q X I hm hq => wd_get X I hm type_init (by decide +kernel) hq⟩

theorem sup_ga {so D : Addr} {id dt gid bt : String} {l₀ l : List Value} {name : Str} {tk : Tok} {Q : Fin → Shared → Prop} (B : Bound id dt gid bt)
    (hso : h.get? so = some { cls := .type "super", dict := none, data := .fields #[.ref D, .ref x, .ref C], slots := #[] }) (hno : Looks (model prog w) h (opaqueClassAbove (.ref C)) none)
    (hC : Looks (model prog w) h (mroOf (.ref C)) l₀) (hl : (l₀.dropWhile (· != .ref D)).drop 1 = l) (X : K.In h) (I : InstAt h x ox C od) (hm : mroIn K C (.type "list") = some true)
    (hf : alongIn K name l = some (some (.builtin id))) (hxC : x ≠ C) (hn : (name == ("__class__" : Str)) = false)
    (hq : Q (.done (.ret (.ref h.objs.size))) ⟨h.push { cls := .type bt, data := .fields #[.builtin id, .ref x] }, g, d, t, os⟩) :
    wpAny (model prog w) A (Builtin.«super.__getattribute__» ⟨[.ref so, .str name tk], []⟩) Q E ⟨h, g, d, t, os⟩ := by
  obtain ⟨hty, hlk, hB⟩ := B
  have hne : (Value.ref x == Value.ref C) = false := by simp [hxC]
  have hdt : ({ cls := .type "super", dict := none, data := .fields #[.ref D, .ref x, .ref C], slots := #[] } : Obj).data = .fields #[.ref D, .ref x, .ref C] := rfl
  have f0 : (#[.ref D, .ref x, .ref C] : Array Value)[0]? = some (.ref D) := rfl
  have f1 : (#[.ref D, .ref x, .ref C] : Array Value)[1]? = some (.ref x) := rfl
  have f2 : (#[.ref D, .ref x, .ref C] : Array Value)[2]? = some (.ref C) := rfl
  unfold Builtin.«super.__getattribute__»
  repeat (first
    | (with_reducible refine wpAny_field hso hdt f0 ?_) | (with_reducible refine wpAny_field hso hdt f1 ?_) | (with_reducible refine wpAny_field hso hdt f2 ?_)
    | (with_reducible refine ks_wpAny_notOpaque hno ?_)
    | (with_reducible refine Looks.at hC ?_; rw [hl])
    | (refine ks_forIn_along X (fun _ _ => rfl) rfl ?_ hf)
    | (with_reducible refine wpAny_of_eq hty ?_)
    | (with_reducible refine wpAny_of_eq hlk ?_)
    | (simp only [hn, hne, Bool.or_false, Bool.false_eq_true, if_false])
    | (with_reducible refine hB _ _ _ _ _ _ _ _ _ _ _ _ _ _ _ X I hm ?_)
    | wp_step
    | dsimp only)
  all_goals exact hq

theorem sup_method {so D : Addr} {id dt gid bt : String} {l₀ l : List Value} {name : Str} {pl : Sem Bool} {Q : Value × List Value → Shared → Prop} (B : Bound id dt gid bt)
    (hso : h.get? so = some { cls := .type "super", dict := none, data := .fields #[.ref D, .ref x, .ref C], slots := #[] }) (hno : Looks (model prog w) h (opaqueClassAbove (.ref C)) none)
    (hC : Looks (model prog w) h (mroOf (.ref C)) l₀) (hl : (l₀.dropWhile (· != .ref D)).drop 1 = l) (X : K.In h) (I : InstAt h x ox C od) (hm : mroIn K C (.type "list") = some true)
    (hf : alongIn K name l = some (some (.builtin id))) (hxC : x ≠ C) (hn : (name == ("__class__" : Str)) = false)
    (hq : Q (.ref h.objs.size, []) ⟨h.push { cls := .type bt, data := .fields #[.builtin id, .ref x] }, g, d, t + 1, os⟩) :
    wpAny (model prog w) A (getMethod (.ref so) name pl) Q E ⟨h, g, d, t, os⟩ := by
  have hlk := F.ks_slot_super_ga.lookup
  have hcan := F.ks_canon_super_ga
  have hT : ∀ t', (⟨h, g, d, t', os⟩ : Shared).TypeIs (.ref so) "super" := fun _ => ⟨_, hso, rfl⟩
  unfold getMethod
  refine wpAny_bind (wpAny_specialOf (hT _) hlk ?_)
  show wpAny _ _ (if (Manifest.canonical "super.__getattribute__" != "object.__getattribute__") = true then _ else _) _ _ _
  rw [if_pos hcan]
  unfold getAttr getAttrBy
  refine wpAny_bind (wpAny_bind (wpAny_mkText (wpAny_holding (wpAny_bind (wpAny_typeOf (hT _) (wpAny_bind (wpAny_of_eq hlk ?_)))))))
  show wpAny _ _ (getAttrByItsOwn (.ref so) (.str name t) (.type "super") (.builtin "super.__getattribute__") true false) _ _ _
  unfold getAttrByItsOwn hookBefore callGetattribute boundAndCalled
  refine wpAny_bind (wpAny_of_eq (show (if onTheHeap (.type "super") then typeLookup (.type "super") "__getattr__" else pure none) = pure none from rfl) ?_)
  refine wpAny_bind (wpAny_attempt (wpAny_holding ?_))
  show wpAny _ _ (bindSpecial (.builtin "super.__getattribute__") (.ref so) >>= _) _ _ _
  refine wpAny_bind (wpAny_of_eq (F.ks_slot_super_ga.bind _) ?_)
  refine wpAny_mono (Q := fun v s' => v = .ref h.objs.size ∧ s' = ⟨h.push { cls := .type bt, data := .fields #[.builtin id, .ref x] }, g, d, t + 1, os⟩) (E := fun _ _ => False)
    (wpAny_call_entry F.ks_slot_super_ga (hT _) F.ks_entry_super_ga (sup_ga B hso hno hC hl X I hm hf hxC hn ⟨_, rfl, rfl, rfl⟩) (F.ks_gaArgs_super _ _)) (fun v s' hv => ?_) fun _ _ z => z.elim
  obtain ⟨rfl, rfl⟩ := hv
  exact wpAny_pure (wpAny_pure hq)
end
end
section
open PySem PySem.W PyProof.Rows PySem.Calls
section
variable {prog : Program} {w : World} {M : Model} {A : Around} {E : Value → Shared → Prop} {s : Shared}

theorem callWith_bnd {pos : Pos} {u : Addr} {bt : String} {vs : Array Value} {Q : Value → Shared → Prop} (hbt : (Value.type bt != Value.type "method") = true ∧ (Value.type bt == Value.type "builtin_function_or_method" || Value.type bt == Value.type "method-wrapper") = true)
    (ho : s.heap.get? u = some { cls := .type bt, data := .fields vs }) (h : wpAny M A (call (.ref u) []) Q E s) : wpAny M A (callWith pos (.ref u) [] [] []) Q E s := by
  unfold callWith
  refine wpAny_bind (wpAny_holding (PySem.evalArgs_none (wpAny_bind (wpAny_standAt ?_))))
  simp only [List.any_nil, Bool.or_false]
  refine wpAny_bind (m := keeperOf (.ref u)) ?_
  unfold keeperOf
  refine wpAny_bind (wpAny_load ho ?_)
  simp only [hbt.1, hbt.2, if_true]
  refine wpAny_pure ?_
  exact wpAny_bind (wpAny_mono h (fun r s₂ hr => wpAny_bind (wpAny_holding (wpAny_point (wpAny_pure hr)))) fun _ _ x => x)

theorem call_bnd {u x : Addr} {bt id : String} {B : Builtin} {Q : Value → Shared → Prop} (hbt : (Value.type bt != Value.type "method") = true ∧ (Value.type bt == Value.type "builtin_function_or_method" || Value.type bt == Value.type "method-wrapper") = true)
    (ho : s.heap.get? u = some { cls := .type bt, data := .fields #[.builtin id, .ref x] }) (hp : plainId id = true) (hb : entryFor table id = some B)
    (hc : ∀ (A : Around) (Q : Unit → Shared → Prop) (E : Value → Shared → Prop), Q () s → wpAny (model prog w) A (checkBoundCall id ⟨[.ref x], []⟩) Q E s)
    (h : wpAny (model prog w) A.in1 (B ⟨[.ref x], []⟩) (fun fin s' => match fin with | .done (.ret v) => Q v s' | _ => False) E s) : wpAny (model prog w) A (call (.ref u) []) Q E s := by
  refine wpAny_call (codeAny_of_tree ?_)
  show wpAny _ A.in1 (callAny (.ref u) ⟨[], []⟩) _ _ _
  unfold callAny
  refine wpAny_bind (wpAny_load ho ?_)
  have e : (Value.type bt == Value.type "method" || Value.type bt == Value.type "builtin_function_or_method" || Value.type bt == Value.type "method-wrapper") = true := by
    rw [Bool.or_assoc, hbt.2, Bool.or_true]
  dsimp only
  rw [if_pos e]
  show wpAny _ _ (if (Value.type bt != Value.type "method") = true then _ else _) _ _ _
  rw [if_pos hbt.1]
  refine wpAny_bind (hc _ _ _ ?_)
  refine wpAny_pure ⟨plainId_quiet hp _, codeAny_builtin hb ?_⟩
  rw [Around.under_plainId hp _]
  refine wpAny_mono h (fun f s' hf => ?_) fun _ _ z => z
  rcases f with (_ | _ | _ | _) | _ <;> first | exact hf | exact hf.elim

theorem chk_pop {A : Around} {E : Value → Shared → Prop} {s : Shared} {x d : Addr} {its : Array Value} {n : Nat} {od : Option Obj} {Q : Unit → Shared → Prop} {P : Params} (X : (Kt P).In s.heap) (ho : s.heap.get? x = some ⟨.ref 193, some d, .seq its n, #[]⟩) (I : InstAt s.heap x ⟨.ref 193, some d, .seq its n, #[]⟩ 193 od) (hq : Q () s) :
    wpAny (model prog w) A (checkBoundCall "list.pop" ⟨[.ref x], []⟩) Q E s := by
  have h1 := looks_isInst (M := model prog w) X I (b := .type "module") (r := false) (by kernel_rfl)
  obtain ⟨cd, hcd, hqn⟩ : ∃ cd, clsIn (Kt P) 193 = some cd ∧ cd.qualname = Str.ofString "_Accumulator" := ⟨_, rfl, rfl⟩
  have e : (toString cd.qualname.toString ++ toString "." ++ toString (Bind.lastOf "list.pop") != "*") = true := by rw [hqn]; decide +kernel
  have h2 := looks_clsIn (M := model prog w) X hcd
  have h3 := looks_typeIn (M := model prog w) X (v := .ref 193) (t := .type "type") (by kernel_rfl)
  have h4 := I.type (M := model prog w)
  unfold checkBoundCall
  repeat (first | (with_reducible refine Looks.at h1 ?_) | (with_reducible refine Looks.at h2 ?_) | (with_reducible refine Looks.at h3 ?_) | (with_reducible refine Looks.at h4 ?_) | (with_reducible refine wpAny_loadPart ho ?_) | (rw [if_pos e]) | wp_step | dsimp only)
  all_goals exact hq
theorem chk_len {A : Around} {E : Value → Shared → Prop} {s : Shared} {x : Addr} {Q : Unit → Shared → Prop} (hq : Q () s) : wpAny (model prog w) A (checkBoundCall "list.__len__" ⟨[.ref x], []⟩) Q E s := by
  refine wpAny_of_eq (a := ()) ?_ hq
  kernel_rfl
theorem chk_init {A : Around} {E : Value → Shared → Prop} {s : Shared} {x : Addr} {Q : Unit → Shared → Prop} (hq : Q () s) : wpAny (model prog w) A (checkBoundCall "list.__init__" ⟨[.ref x], []⟩) Q E s := by
  refine wpAny_of_eq (a := ()) ?_ hq
  kernel_rfl
end
end
section
open PySem PySem.W PyProof.Rows PySem.Calls

theorem mro193 (P : Params) : ∃ cd, clsIn (Kt P) 193 = some cd ∧ cd.mro = [.ref 193, .type "list", .type "object"] := ⟨_, rfl, rfl⟩
theorem Gl.mod {x : Str} {v : Value} (h : ∀ P, glOf P 3 x = none) (w : World) (B : Bs w) : B.mg x = none := by rw [ns_glOf B.K B.ng rfl]; exact h _
theorem Gl.bl {x : Str} {v : Value} (h : ∀ P, glOf P 0 x = some v) (w : World) (B : Bs w) : B.mb x = some v := by rw [ns_glOf B.K B.nb rfl]; exact h _

structure SupFn (P : Params) (a : Addr) : Prop where
  k1 : (fdOf P a).scope.names.lookup (Str.ofString "super") = some .globalImplicit
  k2 : (fdOf P a).scope.names.lookup (Str.ofString "__class__") = some .free
  k3 : (fdOf P a).scope.names.lookup (Str.ofString "self") = some .local
  kk : (fdOf P a).scope.kind = .function
  cl : (fdOf P a).closure = [(Str.ofString "__class__", 117)]
  hat : ∃ c d sl, (Kx P).lookup a = some ⟨c, d, .func (fdOf P a), sl⟩
  nt : a ∉ tabs
  par : ∃ ar, ((fdOf P a).params.posonlyargs ++ (fdOf P a).params.args).head? = some ar ∧ ar.arg = Str.ofString "self"
  code : ∃ cc oc vs file tf, (fdOf P a).code = .ref cc ∧ cc ∉ tabs ∧ (Kx P).lookup cc = some oc ∧ oc.data = .fields vs ∧ vs[2]? = some (.str file tf) ∧ ((PW.main.file : Str) == file) = true
  glob : (fdOf P a).globals = mainGlobals
  blt : (fdOf P a).builtins = builtinsNs
theorem sup190 (P : Params) : SupFn P 190 := ⟨rfl, rfl, rfl, rfl, rfl, ⟨_, _, _, rfl⟩, by decide, ⟨_, rfl, rfl⟩, ⟨_, _, _, _, _, rfl, by decide, rfl, rfl, rfl, by decide +kernel⟩, rfl, rfl⟩
theorem sup153 (P : Params) : SupFn P 153 := ⟨rfl, rfl, rfl, rfl, rfl, ⟨_, _, _, rfl⟩, by decide, ⟨_, rfl, rfl⟩, ⟨_, _, _, _, _, rfl, by decide, rfl, rfl, rfl, by decide +kernel⟩, rfl, rfl⟩
theorem sup130 (P : Params) : SupFn P 130 := ⟨rfl, rfl, rfl, rfl, rfl, ⟨_, _, _, rfl⟩, by decide, ⟨_, rfl, rfl⟩, ⟨_, _, _, _, _, rfl, by decide, rfl, rfl, rfl, by decide +kernel⟩, rfl, rfl⟩
theorem cell117 (P : Params) : ∃ c d sl, (Kx P).lookup 117 = some ⟨c, d, .cell (some (.ref 193)), sl⟩ := ⟨_, _, _, rfl⟩
theorem main_super : (PW.main.scope.names.lookup ("super" : Str)).isSome = false := by decide +kernel

theorem sup_step {w : World} {c : Cx w} {ρ : List (List Addr)} {loc : Locs} {cs : List AC} {s : Shared} {i : Nat} {l : List (Str × Str)} {init : Int} {body : List Stmt} {p0 p1 apos pos : Pos} {attr : Str} {id dt gid bt : String} {B : Builtin} {E : Value → Shared → Prop} {Q : Value → Shared → Prop}
    (F : SupFn w.params c.a) (hfd : c.fd = fdOf w.params c.a) (R : Rep c ρ loc cs s) (hself : loc.lookup (Str.ofString "self") = some (.obj i)) (hc : cs[i]? = some (.acc l init)) (Bd : Bound id dt gid bt)
    (hbt : (Value.type bt != Value.type "method") = true ∧ (Value.type bt == Value.type "builtin_function_or_method" || Value.type bt == Value.type "method-wrapper") = true)
    (hf : ∀ P, alongIn (Kt P) attr [.type "list", .type "object"] = some (some (.builtin id))) (hn : (attr == ("__class__" : Str)) = false) (hp : plainId id = true) (hb : entryFor table id = some B)
    (hck : ∀ (s : Shared) (a d : Addr) (its : Array Value) (n : Nat) (od : Option Obj) (A : Around) (Q : Unit → Shared → Prop) (E : Value → Shared → Prop), (Kt w.params).In s.heap → s.heap.get? a = some ⟨.ref 193, some d, .seq its n, #[]⟩ → InstAt s.heap a ⟨.ref 193, some d, .seq its n, #[]⟩ 193 od → Q () s → wpAny (MD w) A (checkBoundCall id ⟨[.ref a], []⟩) Q E s)
    (he : eval (.Call (.Attribute (.Call (.Name "super" p0) [] [] p1) attr apos) [] [] pos) c.env = (do
      let ov ← attributeBase (.Call (.Name "super" p0) [] [] p1) attr c.env (eval (.Call (.Name "super" p0) [] [] p1) c.env)
      standAt apos.atName
      let (f, first) ← holding [ov] (getMethod ov attr (pure false))
      callWith pos f first (backTo pos (starEach [] c.env)) []))
    (h : ∀ a d s1, ρ[i]? = some [a, d] → Post c ρ s loc cs s1 ρ → wpAny (MD w) c.A.in1 (B ⟨[.ref a], []⟩) (fun fin s' => match fin with | .done (.ret v) => Q v s' | _ => False) E s1) :
    _root_.PySem.wpAt (MD w) c.A (.func body c.env) (eval (.Call (.Attribute (.Call (.Name "super" p0) [] [] p1) attr apos) [] [] pos) c.env) Q E s := by
  refine hideG fun Gq hGq => ?_
  obtain ⟨fc, fdd, fsl, hat⟩ := F.hat
  obtain ⟨ar, har, harn⟩ := F.par
  obtain ⟨cc, oc, vs, file, tf, hcode, hct, hcl, hcd, hvs, hfile⟩ := F.code
  obtain ⟨m, hn0, hm⟩ := R.fr
  obtain ⟨vself, hms, a, r, ha, rfl⟩ := hm _ _ hself
  obtain ⟨d, its, n, t, t2, n2, rfl, ho, hd, hpr⟩ := accInst R hc ha
  refine hGq ?_
  clear hGq Gq
  have hkf : ∀ x, c.env.kindOf x = (fdOf w.params c.a).scope.names.lookup x := fun x => by rw [← hfd]; rfl
  have hkk : c.env.scope.kind = .function := by have e : c.env.scope = c.fd.scope := rfl; rw [e, hfd]; exact F.kk
  have n1 : s.heap.Ns c.env.globals c.B.mg := by
    have e : c.env.globals = c.fd.globals := rfl
    rw [e, hfd, F.glob]; exact R.stat.ns c.B.ng (by decide)
  have n2' : s.heap.Ns c.env.builtins c.B.mb := by
    have e : c.env.builtins = c.fd.builtins := rfl
    rw [e, hfd, F.blt]; exact R.stat.ns c.B.nb (by decide)
  have hcells : c.env.cells.lookup (Str.ofString "__class__") = some 117 := by
    have e : c.env.cells = c.fd.closure := rfl
    rw [e, hfd, F.cl]; rfl
  refine hideG fun Gq hGq => ?_
  obtain ⟨c1, c2, c3, h117⟩ := cell117 w.params
  have hKt := R.stat.kt
  obtain ⟨cd, hcd193, hmro⟩ := mro193 w.params
  refine hGq ?_
  clear hGq Gq
  have hC := looks_clsIn (M := MD w) hKt hcd193
  refine ks_wpAt_MethodCall (pl := pure false) ?_ he
  refine ks_wpAt_super_base (env := c.env) (f := c.a) (by rw [hkf]; exact F.k1) (by rw [hkf]; exact F.k2) hn rfl (R.stat.keep _ _ (c.B.K _ _ hat) F.nt) rfl har (by have e : c.env.code = c.fd.code := rfl; rw [e, hfd]; exact hcode) (R.stat.keep _ _ (c.B.K _ _ hcl) hct) hcd hvs hfile main_super ?_
  refine ks_loadName_global hkk (by rw [hkf]; exact F.k1) (loadGlobal_builtin n1 (Gl.mod (v := .type "super") (by intro P; kernel_rfl) w c.B) n2' (Gl.bl (v := .type "super") (by intro P; kernel_rfl) w c.B) ⟨rfl, ?_⟩)
  refine wpAny_loadName_free hkk (by rw [hkf]; exact F.k2) hcells ⟨_, R.stat.keep _ _ (c.B.K _ _ h117) (by decide), rfl⟩ ?_
  rw [harn]
  refine wpAny_loadName_local hkk (by rw [hkf]; exact F.k3) hn0 hms ?_
  obtain ⟨o193, ho193, hd193⟩ : ∃ o, s.heap.get? 193 = some o ∧ o.data = .cls cd := by
    unfold clsIn at hcd193
    split at hcd193
    · rename_i x1 x2 x3 x4 hz
      cases hcd193
      exact ⟨_, hKt _ _ hz, rfl⟩
    · cases hcd193
  refine ks_wpAny_isType_cls ho193 hd193 ⟨rfl, ?_⟩
  refine ks_wpAny_call_super ho193 hd193 ho rfl (fun c e => by cases e) (looks_mroIn hKt (by kernel_rfl)) (fun h' e k => ?_)
  have P1 : Post c ρ s loc cs { s with heap := h', toks := s.toks } ρ := .heap R k
  have X1 : (Kt w.params).In h' := P1.rep.stat.kt
  have I1 : InstAt h' a ⟨.ref 193, some d, .seq its.toArray n, #[]⟩ 193 (some (accD w.params t2 init t n2)) := accInstAt (k _ _ ho) (k _ _ hd)
  have hC1 : Looks (MD w) h' (mroOf (.ref 193)) cd.mro := fun A Q E s k q => wpAny_bind ((looks_clsIn X1 hcd193) A _ E s k (wpAny_pure q))
  have hne : a ≠ 193 := by
    rintro rfl
    rw [ho] at ho193; cases ho193; cases hd193
  refine sup_method Bd e (looks_opaque X1 (by kernel_rfl)) hC1 (l := [.type "list", .type "object"]) (by rw [hmro]; decide) X1 I1 (by kernel_rfl) (hf _) hne hn ?_
  have k2 : ∀ b o, h'.get? b = some o → (h'.push { cls := .type bt, data := .fields #[.builtin id, .ref a] }).get? b = some o := fun b o e => Heap.get?_push_of_some _ e
  have P2 := P1.trans (.heap P1.rep (tk := s.toks + 1) k2)
  refine callWith_bnd hbt (Heap.get?_push_size _ rfl) (call_bnd hbt (Heap.get?_push_size _ rfl) hp hb (fun A Q E q => ?_) (h a d _ ha P2))
  exact hck _ a d its.toArray n _ A Q E P2.rep.stat.kt (k2 _ _ (k _ _ ho)) (accInstAt (k2 _ _ (k _ _ ho)) (k2 _ _ (k _ _ hd))) q
end
section
open PySem PySem.W PyProof.Rows PySem.Calls
section
variable {k : Nat} {a : Addr} {sc : Scope} {loc : Locs} {cs : List AC}

noncomputable def EvA (k : Nat) (a : Addr) (sc : Scope) (loc : Locs) (cs : List AC) (e : Expr) (v : AV) (cs' : List AC) : Prop :=
  ∀ (w : World) (c : Cx w) ρ s (body : List Stmt), c.OK k sc → c.a = a → c.fd = fdOf w.params a → Rep c ρ loc cs s → _root_.PySem.wpAt (MD w) c.A (.func body c.env) (eval e c.env) (fun v' s' => ∃ ρ', Post c ρ s loc cs' s' ρ' ∧ VRep ρ' s'.heap v v') (fun _ _ => False) s
noncomputable def ExsA (k : Nat) (a : Addr) (sc : Scope) (loc : Locs) (cs : List AC) (sts : List Stmt) (f : AF) (loc' : Locs) (cs' : List AC) : Prop :=
  ∀ (w : World) (c : Cx w) ρ s (body : List Stmt), c.OK k sc → c.a = a → c.fd = fdOf w.params a → Rep c ρ loc cs s → _root_.PySem.wpAt (MD w) c.A (.func body c.env) (execs sts c.env) (fun f' s' => ∃ ρ', Post c ρ s loc' cs' s' ρ' ∧ FlRep ρ' s'.heap f f') (fun _ _ => False) s

theorem exsA_of {sts f loc' cs'} (h : Exs k sc loc cs sts f loc' cs') : ExsA k a sc loc cs sts f loc' cs' := fun w c ρ s body O _ _ R => wpAt_of_wpAny (h w c ρ s O R)
theorem exsA_ret {e pos rest v cs1} (h : EvA k a sc loc cs e v cs1) : ExsA k a sc loc cs (.Return (some e) pos :: rest) (.ret v) loc cs1 := by
  intro w c ρ s body O e1 e2 R
  refine ks_wpAt_execs_cons (ks_wpAt_Return_some (ks_wpAt_mono (h w c ρ s body O e1 e2 R) (fun v' s' hq => ?_) fun _ _ x => x.elim))
  obtain ⟨ρ', P, V⟩ := hq
  exact ⟨ρ', P, _, rfl, V⟩
theorem exsA_cons {st rest loc1 cs1 f loc2 cs2} (h : Ex k sc loc cs st .next loc1 cs1) (h2 : ExsA k a sc loc1 cs1 rest f loc2 cs2) : ExsA k a sc loc cs (st :: rest) f loc2 cs2 := by
  intro w c ρ s body O e1 e2 R
  refine ks_wpAt_execs_cons (wpAt_of_wpAny (wpAny_mono (h w c ρ s O R) (fun f' s' hq => ?_) fun _ _ x => x.elim))
  obtain ⟨ρ1, P1, rfl⟩ := hq
  exact ks_wpAt_mono (h2 w c ρ1 s' body O e1 e2 P1.rep) (fun f'' s2 ⟨ρ2, P2, q⟩ => ⟨ρ2, P1.trans P2, q⟩) fun _ _ x => x
theorem exsA_expr {e pos rest v cs1 f loc2 cs2} (h : EvA k a sc loc cs e v cs1) (h2 : ExsA k a sc loc cs1 rest f loc2 cs2) (hs : ∀ env, swapsWith e none pos.line env = pure false) : ExsA k a sc loc cs (.Expr e pos :: rest) f loc2 cs2 := by
  intro w c ρ s body O e1 e2 R
  refine ks_wpAt_execs_cons (ks_wpAt_Expr_any (ks_wpAt_mono (h w c ρ s body O e1 e2 R) (fun v' s' hq => ?_) fun _ _ x => x.elim) O.inter (hs _))
  obtain ⟨ρ1, P1, q⟩ := hq
  exact ks_wpAt_mono (h2 w c ρ1 s' body O e1 e2 P1.rep) (fun f'' s2 ⟨ρ2, P2, q⟩ => ⟨ρ2, P1.trans P2, q⟩) fun _ _ x => x
theorem exsA_nil : ExsA k a sc loc cs [] .next loc cs := exsA_of exs_nil
theorem exsA_ifF {t : Expr} {body' : List Stmt} {p rest f loc2 cs2} (h : Tst k sc loc cs t false cs) (h2 : ExsA k a sc loc cs rest f loc2 cs2) : ExsA k a sc loc cs (.If t body' [] p :: rest) f loc2 cs2 := exsA_cons (ex_if (b := false) h exs_nil) h2

theorem cl_fnA {args : List AV} {f : AF} {loc' : Locs} {cs' : List AC} {body : List Stmt} {names : List Str} (F : ∀ P, Fn P a sc body names) (hl : names.length = args.length)
    (h : ExsA k a sc (names.zip args) cs body f loc' cs') : Cl (k + 1) cs (.ref a) args f.val cs' := by
  intro w c ρ loc s vs scc O R V
  have FP := F w.params
  refine hideG fun Gq hGq => ?_
  obtain ⟨oc, od, osl, hat⟩ := FP.at_
  obtain ⟨cc, ocd, cvs, t, hcode, hct, hcl, hcd, hc1⟩ := FP.cd
  refine hGq ?_
  clear hGq Gq
  have hlen : vs.length = names.length := by rw [hl, V.length]
  refine wpAny_call (ks_codeAny_call_defAt (binds := names.zip vs) (by have := O.depth; have e : recursionLimit = 1000 := rfl; lia) (R.stat.keep _ _ (c.B.K _ _ hat) FP.nt) rfl R.stat.lim
    ⟨cc, ocd, cvs, t, hcode, R.stat.keep _ _ (c.B.K _ _ hcl) hct, hcd, hc1⟩ FP.bod (FP.bind s (fun b o e n => R.stat.keep _ _ (c.B.K _ _ e) n) vs hlen) (by rw [FP.scp]; exact FP.cell) ?_ ?_ (by rw [FP.scp]; exact FP.co) (by rw [FP.scp]; exact FP.gen) (by rw [FP.scp]; exact FP.kind))
  · intro x hx
    rw [FP.scp]
    exact FP.loc _ (List.of_mem_zip hx).1
  · intro h0 hns hk
    have R0 := R.enter (a := a) (tk := s.toks + (names.zip vs).length) hns hk (loc0 := names.zip args) (by
      intro x v e
      have := VRep.args names V hl x v e
      rw [lookup_reverse_nodup _ _ (by rw [List.map_fst_zip (by lia)]; exact FP.nd)]
      exact this)
    refine ks_wpAt_mono (h w _ ρ _ body (O.callee FP) rfl rfl R0) (fun f' s' hq => ?_) fun _ _ x => x.elim
    obtain ⟨ρ', P, q⟩ := hq
    refine ⟨ρ', P.leave (TK.of_keeps hk), ?_⟩
    cases f with
    | next => cases q; rfl
    | ret v => obtain ⟨v', rfl, q⟩ := q; exact q

theorem fn190 (P) : Fn P 190 (scA 190) (bodyA 190) ["self"] := by
  refine ⟨⟨_, _, _, rfl⟩, by decide, ⟨_, _, _, _, rfl, by decide, rfl, rfl, rfl⟩, rfl, rfl, by decide, by decide, rfl, rfl, rfl, rfl, rfl, by decide, pureB (len1 (fun v0 => by kernel_rfl))⟩
theorem fn153 (P) : Fn P 153 (scA 153) (bodyA 153) ["self"] := by
  refine ⟨⟨_, _, _, rfl⟩, by decide, ⟨_, _, _, _, rfl, by decide, rfl, rfl, rfl⟩, rfl, rfl, by decide, by decide, rfl, rfl, rfl, rfl, rfl, by decide, pureB (len1 (fun v0 => by kernel_rfl))⟩
theorem fn130 (P) : Fn P 130 (scA 130) (bodyA 130) ["self", "initial_size"] := by
  refine ⟨⟨_, _, _, rfl⟩, by decide, ⟨_, _, _, _, rfl, by decide, rfl, rfl, rfl⟩, rfl, rfl, by decide, by decide, rfl, rfl, rfl, rfl, rfl, by decide, fun s hk => ?_⟩
  refine len2 fun v0 v1 => ?_
  have e : ∃ T, (fdOf P 130).defaults = .ref T ∧ T ∉ tabs ∧ ∃ o items n, (Kx P).lookup T = some o ∧ o.data = .seq items n ∧ ∃ k, bindArgs (fdOf P 130) ⟨[v0, v1], []⟩ = seqItems? (fdOf P 130).defaults >>= k ∧ k (some items) = pure [(Str.ofString "self", v0), (Str.ofString "initial_size", v1)] := ⟨_, rfl, by decide, _, _, _, rfl, rfl, _, rfl, by kernel_rfl⟩
  refine hideG fun Gq hGq => ?_
  obtain ⟨T, h1, h2, o, items, n, h3, h4, k, h5, h6⟩ := e
  refine hGq ?_
  clear hGq Gq
  exact BindsTo.of_defaults h1 (hk _ _ h3 h2) h4 h5 h6
theorem cal190 : Callee (.ref 190) := fun P => ⟨_, _, _, _, rfl, by decide⟩
theorem cal153 : Callee (.ref 153) := fun P => ⟨_, _, _, _, rfl, by decide⟩
theorem cal175 : Callee (.ref 175) := fun P => ⟨_, _, _, _, rfl, by decide⟩

theorem bt_mw : (Value.type "method-wrapper" != Value.type "method") = true ∧ (Value.type "method-wrapper" == Value.type "builtin_function_or_method" || Value.type "method-wrapper" == Value.type "method-wrapper") = true := by decide +kernel
theorem bt_bf : (Value.type "builtin_function_or_method" != Value.type "method") = true ∧ (Value.type "builtin_function_or_method" == Value.type "builtin_function_or_method" || Value.type "builtin_function_or_method" == Value.type "method-wrapper") = true := by decide +kernel
theorem entry_llen : entryFor table "list.__len__" = some Builtin.«list.__len__» := entryFor_of_tree (by kernel_rfl)

theorem cl_count {i : Nat} {l init} (hc : cs[i]? = some (.acc l init)) : Cl (k + 1) cs (.ref 190) [.obj i] (.int l.length) cs := by
  refine cl_fnA (f := .ret (.int l.length)) fn190 rfl (loc' := _) (exsA_ret ?_)
  intro w c ρ s body O e1 e2 R
  have F := e1 ▸ sup190 w.params
  refine sup_step F (by rw [e1]; exact e2) R rfl hc bound_len bt_mw (fun P => by kernel_rfl) rfl (by decide +kernel) entry_llen (fun s a d its n od A Q E _ _ _ q => chk_len q) rfl (fun a d s1 ha P => ?_)
  refine hideG fun Gq hGq => ?_
  obtain ⟨d', its, n, t, t2, n2, e, ho, hd, hpr⟩ := accInst P.rep hc ha
  refine hGq ?_
  clear hGq Gq
  rw [ha] at *
  unfold Builtin.«list.__len__» seqSize
  repeat (first | (with_reducible refine wpAny_loadPart ho ?_) | (with_reducible refine wpAny_load ho ?_) | wp_step | dsimp only)
  all_goals exact ⟨ρ, P.trans (.tok P.rep _), s1.toks, by simp [hpr.length]⟩

theorem pairs_split {h : Heap} {vs : List Value} {l : List (Str × Str)} {x y : Str} (H : PairsAre h vs (l ++ [(x, y)])) : ∃ vs' b t u, vs = vs' ++ [.ref b] ∧ IsTup h b #[.str x t, .str y u] ∧ PairsAre h vs' l := by
  induction l generalizing vs with
  | nil =>
    cases H with
    | cons t h => cases h; exact ⟨[], _, _, _, rfl, t, .nil⟩
  | cons p l ih =>
    cases H with
    | cons t h =>
      refine hideG fun Gq hGq => ?_
      obtain ⟨vs', b, t', u, rfl, ht, hp⟩ := ih h
      refine hGq ?_
      clear hGq Gq
      exact ⟨_ :: vs', b, t', u, rfl, ht, .cons t hp⟩

theorem fits_neg1 : Builtin.List.listFitsIndex (-1) = true := by decide +kernel
theorem erase_last (vs : List Value) (b : Value) : ((vs ++ [b]).toArray.eraseIdxIfInBounds vs.length).toList = vs := by
  rw [Array.eraseIdxIfInBounds]
  simp [List.eraseIdx_append_of_length_le]
theorem ev_super_pop {loc : Locs} {sc : Scope} {p0 p1 apos pos : Pos} {i : Nat} {l init} {x y : Str} (hc : cs[i]? = some (.acc (l ++ [(x, y)]) init)) (hl : l.length ≤ 100000) (hs : loc.lookup (Str.ofString "self") = some (.obj i))
    (he : ∀ env, eval (.Call (.Attribute (.Call (.Name "super" p0) [] [] p1) "pop" apos) [] [] pos) env = (do
      let ov ← attributeBase (.Call (.Name "super" p0) [] [] p1) "pop" env (eval (.Call (.Name "super" p0) [] [] p1) env)
      standAt apos.atName
      let (f, first) ← holding [ov] (getMethod ov "pop" (pure false))
      callWith pos f first (backTo pos (starEach [] env)) [])) : EvA k 153 sc loc cs (.Call (.Attribute (.Call (.Name "super" p0) [] [] p1) "pop" apos) [] [] pos) (.tupS [x, y]) (cs.set i (.acc l init)) := by
  intro w c ρ s body O e1 e2 R
  have F := e1 ▸ sup153 w.params
  refine sup_step F (by rw [e1]; exact e2) R hs hc bound_pop bt_bf (fun P => by kernel_rfl) rfl PySem.F.slot_list_pop.plain PySem.F.entry_list_pop (fun s a d its n od A Q E X ho I q => chk_pop X ho I q) (he _) (fun a d s1 ha P => ?_)
  refine hideG fun Gq hGq => ?_
  obtain ⟨d', its, n, t, t2, n2, e, ho, hd, hpr⟩ := accInst P.rep hc ha
  refine hGq ?_
  clear hGq Gq
  cases e
  refine hideG fun Gq hGq => ?_
  obtain ⟨vs', b, t', u, rfl, ht, hp⟩ := pairs_split hpr
  refine hGq ?_
  clear hGq Gq
  have hsz := hp.length
  have hk : seqIndex? (-1) (vs' ++ [Value.ref b]).toArray.size = some vs'.length := by
    rw [seqIndex_neg (by lia) (by simp; lia)]; simp; lia
  unfold Builtin.«list.pop»
  repeat (first | (with_reducible refine wpAny_listItems ho rfl ?_) | (rw [fits_neg1]) | (rw [hk]) | wp_step | dsimp only)
  have hget : (vs' ++ [Value.ref b]).toArray[vs'.length]? = some (.ref b) := by simp
  simp only [Option.bind_some, hget, Option.map_some]
  show wpAny _ _ (updateSeq a (fun x => x.eraseIdxIfInBounds vs'.length) >>= fun _ => ret (.ref b)) _ _ s1
  refine wpAny_bind (wpAny_updateSeq ho rfl (wpAny_pure ?_) (by simp [sizeLine_eq]; lia) (by have := erase_last vs' (.ref b); have h2 := congrArg List.length this; simp only [Array.length_toList] at h2; rw [h2, sizeLine_eq]; lia))
  have U := acc_upd (l' := l) (f := fun x => x.eraseIdxIfInBounds vs'.length) P.rep hc ha ho hd (by show PairsAre _ ((vs' ++ [Value.ref b]).toArray.eraseIdxIfInBounds vs'.length).toList _; rw [erase_last]; exact hp)
  exact ⟨ρ, P.trans U, b, [.str x t', .str y u], rfl, U.tk _ _ ht, .cons _ _ (.cons _ _ .nil)⟩
end
end
section
open PySem PySem.W PyProof.Rows PySem.Calls
theorem entry_lset : entryFor table "list.__setitem__" = some Builtin.«list.__setitem__» := entryFor_of_tree (by kernel_rfl)
theorem args_lset (a b c : Value) : argsOk "list.__setitem__" ⟨[a, b, c], []⟩ := by unfold argsOk; kernel_rfl
section
variable {prog : Program} {w : World} {A : Around} {E : Value → Shared → Prop} {h : Heap} {g : Array GenState} {dr : Drawn} {t : Nat} {os : OsState}
set_option maxHeartbeats 2000000 in
theorem lset_all {P : Params} {a d sl b : Addr} {its new : Array Value} {n n2 : Nat} {Q : Fin → Shared → Prop} (X : (Kt P).In h) (ho : h.get? a = some ⟨.ref 193, some d, .seq its n, #[]⟩) (hs : h.get? sl = some { cls := .type "slice", data := .fields #[.none, .none, .none] })
    (hb : h.get? b = some { cls := .type "list", data := .seq #[] n2 }) (hsz : its.size ≤ 100000) (hne : b ≠ a)
    (hq : ∀ h' t', Heap.ExtBut a h h' → (∃ n', h'.get? a = some ⟨.ref 193, some d, .seq #[] n', #[]⟩) → Q (.done (.ret .none)) ⟨h', g, dr, t', os⟩) :
    wpAny (model prog w) A (Builtin.«list.__setitem__» ⟨[.ref a, .ref sl, .ref b], []⟩) Q E ⟨h, g, dr, t, os⟩ := by
  have hT : (⟨h, g, dr, t, os⟩ : Shared).TypeIs (.ref sl) "slice" := ⟨_, hs, rfl⟩
  have hTb : (⟨h, g, dr, t, os⟩ : Shared).TypeIs (.ref b) "list" := ⟨_, hb, rfl⟩
  have noIx : typeLookup (.type "slice") (Str.ofString "__index__") = pure none := by rw [typeLookup_type, builtinLookup_eq_fast]; kernel_rfl
  have e1 : Builtin.List.listSameRef (.ref a) (.ref b) = false := by simp [Builtin.List.listSameRef]; exact fun e => hne e.symm
  unfold Builtin.«list.__setitem__»
  repeat (first | (with_reducible refine wpAny_listItems ho rfl ?_) | (with_reducible refine wpAny_listItems hb rfl ?_) | (with_reducible refine wpAny_specialOf hT noIx ?_) | (with_reducible refine wpAny_typeOf hT ?_) | (with_reducible refine wpAny_typeOf hTb ?_) | (rw [e1]) | wp_step | dsimp only)
  have e2 : Builtin.List.listTooLong (its.size + (#[] : Array Value).size) = false := by
    simp [Builtin.List.listTooLong, sizeLine_eq]; lia
  rw [e2, if_neg (by decide)]
  have ef : ∀ xs : Array Value, (xs.extract 0 (if (1 : Int) > 0 then (0 : Int) else ↑its.size - 1).toNat ++ #[] ++ xs.extract (max (if (1 : Int) > 0 then (0 : Int) else ↑its.size - 1) (if (1 : Int) > 0 then (↑its.size : Int) else -1)).toNat xs.size) = xs.extract its.size xs.size := by
    intro xs
    simp
  refine wpAny_bind ?_
  show wpAny _ _ (updateSeq a _) _ _ _
  refine wpAny_updateSeq ho rfl ?_ (by simp [sizeLine_eq]; lia) (by simp [sizeLine_eq])
  refine wpAny_bind (wpAny_letGo (wpAny_pure ?_))
  refine hq _ _ (Heap.SameBut.update ..).extBut ?_
  rw [Heap.get?_update_self _ ho rfl]
  have en : ∀ f : Array Value → Array Value, f its = #[] → ∃ n', some (Obj.mapSeq f ⟨.ref 193, some d, .seq its n, #[]⟩) = some ⟨.ref 193, some d, .seq #[] n', #[]⟩ := by
    intro f hf
    obtain ⟨n', e⟩ : ∃ n', Obj.mapSeq f ⟨.ref 193, some d, .seq its n, #[]⟩ = ⟨.ref 193, some d, .seq (f its) n', #[]⟩ := ⟨_, rfl⟩
    exact ⟨n', by rw [e, hf]⟩
  exact en _ (by simp)
end
end
section
open PySem PySem.W PyProof.Rows PySem.Calls
section
variable {prog : Program} {w : World} {A : Around} {E : Value → Shared → Prop} {h : Heap} {g : Array GenState} {dr : Drawn} {t : Nat} {os : OsState}
set_option maxHeartbeats 2000000 in
theorem seqKey {P : Params} {a d sl : Addr} {its : Array Value} {n : Nat} {od : Option Obj} {Q : Value → Shared → Prop} (X : (Kt P).In h) (I : InstAt h a ⟨.ref 193, some d, .seq its n, #[]⟩ 193 od)
    (hq : Q (.ref sl) ⟨h, g, dr, t, os⟩) : wpAny (model prog w) A (sequenceKey (.ref a) (.ref sl) (Str.ofString "__setitem__")) Q E ⟨h, g, dr, t, os⟩ := by
  have h4 := I.type (M := model prog w)
  unfold sequenceKey
  refine wpAny_bind (Looks.at h4 ?_)
  dsimp only
  unfold seqItemTypes
  repeat (first | (refine wpAny_bind (Looks.at (looks_mroIn X (r := false) (by kernel_rfl)) ?_)) | (refine Looks.at (looks_mroIn X (r := false) (by kernel_rfl)) ?_) | wp_step | dsimp only)
  all_goals exact hq

theorem setItem_acc {P : Params} {a d sl b : Addr} {its : Array Value} {n n2 : Nat} {od : Option Obj} {Q : Unit → Shared → Prop} (X : (Kt P).In h) (ho : h.get? a = some ⟨.ref 193, some d, .seq its n, #[]⟩) (I : InstAt h a ⟨.ref 193, some d, .seq its n, #[]⟩ 193 od) (hs : h.get? sl = some { cls := .type "slice", data := .fields #[.none, .none, .none] })
    (hb : h.get? b = some { cls := .type "list", data := .seq #[] n2 }) (hsz : its.size ≤ 100000) (hne : b ≠ a)
    (hq : ∀ h' t', Heap.ExtBut a h h' → (∃ n', h'.get? a = some ⟨.ref 193, some d, .seq #[] n', #[]⟩) → Q () ⟨h', g, dr, t', os⟩) :
    wpAny (model prog w) A (setItem (.ref a) (.ref sl) (.ref b)) Q E ⟨h, g, dr, t, os⟩ := by
  have hf : findIn (Kt P) (.ref 193) (Str.ofString "__setitem__") = some (some (.builtin "list.__setitem__")) := by kernel_rfl
  unfold setItem
  refine wpAny_holding (wpAny_bind (seqKey X I (wpAny_bind ?_)))
  unfold callSpecial? specialOf
  refine wpAny_bind (wpAny_bind (I.type.here ((looks_findIn X hf).here ?_)))
  dsimp only
  refine wpAny_holding (wpAny_bind (wpAny_of_eq (slot_list_setitem.bind _) (wpAny_bind ?_)))
  refine sub_call (owner := "list") (n := "__setitem__") X I (by kernel_rfl) (by decide +kernel) (.inl (by decide +kernel)) slot_list_setitem.plain entry_lset (args_lset _ _ _) ?_
  exact lset_all (its := its) (new := #[]) X ho hs hb hsz hne fun h' t' x y => wpAny_pure (wpAny_pure (hq h' t' x y))

theorem refuse_list (self : Value) : refuseLoop self "__setattr__" [.ref 193, .type "list", .type "object"] = pure () := by
  rw [refuseLoop_ref]; kernel_rfl
theorem osa_acc {P : Params} {a : Addr} {ox : Obj} {od : Option Obj} {tk : Tok} {v : Value} {R : Result → Shared → Prop} {s : Shared} (X : (Kt P).In s.heap) (I : InstAt s.heap a ox 193 od)
    (h : ∀ b, wpAny (model prog w) A.in1 (Builtin.ObjectAttr.storeInOwnDict (.ref a) (.ref 193) (.str (Str.ofString "_initial_size") tk) (Str.ofString "_initial_size") v b)
      (fun fin s' => match fin with | .done f => R (.ok f) s' | .again c' => c'.quiet = true ∧ codeAny (model prog w) A c' R s') (fun e s' => R (.error e) s') s) :
    codeAny (model prog w) A (.call (.builtin "object.__setattr__") ⟨[.ref a, .str (Str.ofString "_initial_size") tk, v], []⟩) R s := by
  have SF := PySem.F.store_object
  obtain ⟨cd, hc, hm0⟩ := mro193 P
  have sub := looks_isInst (M := model prog w) X I (b := .type "object") (r := true) (by kernel_rfl)
  refine codeAny_call_builtin SF.slot.plain SF.entry (@check_slot (model prog w) _ _ s "object.__setattr__" "object" "__setattr__" (.ref a) [.str (Str.ofString "_initial_size") tk, v] [] _ SF.kind SF.split sub (SF.args (.ref a) (.str (Str.ofString "_initial_size") tk) v) ?_)
  have hm : Looks (model prog w) s.heap (mroOf (.ref 193)) cd.mro := fun A Q E s k q => wpAny_bind ((looks_clsIn X hc) A _ E s k (wpAny_pure q))
  have hna : findIn (Kt P) (.ref 193) (Str.ofString "_initial_size") = some none := by kernel_rfl
  rw [osa_eq, refuse_eq]
  refine wpAny_bind (wpAny_bind (I.type.here (wpAny_bind (hm.here ?_))))
  rw [hm0, refuse_list]
  refine wpAny_pure (wpAny_bind (I.type.here (wpAny_bind ((looks_findIn X hna).here (wpAny_bind (wpAny_pure ?_))))))
  exact h _

theorem acc_setattr {a d : Addr} {its : Array Value} {n n2 : Nat} {t2 t1 tv : Tok} {init i2 : Int} {Q : Unit → Shared → Prop} (X : (Kt w.params).In h) (ho : h.get? a = some ⟨.ref 193, some d, .seq its n, #[]⟩) (hd : h.get? d = some (accD w.params t2 init t1 n2))
    (hq : ∀ h' t', Heap.ExtBut d h h' → h'.get? d = some (accD w.params t2 i2 tv n2) → Q () ⟨h', g, dr, t', os⟩) :
    wpAny (model prog w) A (setAttr (.ref a) (Str.ofString "_initial_size") (.int i2 tv)) Q E ⟨h, g, dr, t, os⟩ := by
  have I := accInstAt ho hd
  refine set_plain X I (by kernel_rfl) ?_
  refine osa_acc X I fun b => ?_
  obtain ⟨cd, hc, hdt⟩ : ∃ cd, clsIn (Kt w.params) 193 = some cd ∧ cd.hasDict = true := ⟨_, rfl, rfl⟩
  refine wpAny_bind (wpAny_pure (wpAny_bind (wpAny_bind (wpAny_loadPart ho (wpAny_bind ((looks_clsIn X hc).here ?_))))))
  rw [hdt]
  refine wpAny_pure (a := some d) (wpAny_bind (wpAny_pure (wpAny_bind ?_)))
  unfold nsSet
  refine wpAny_bind (wpAny_bind (wpAny_askSetting (wpAny_pure (wpAny_bind (wpAny_mkText (wpAny_bind (wpAny_loadPart hd ?_)))))))
  dsimp only
  rw [if_neg (by rw [aRefKeyMayBeTheName_at]; simp [DictEntry.refKey])]
  refine wpAny_updatePart hd ?_
  have D' : (h.update d (Obj.putName (Str.ofString "_initial_size") (PyData.keyHash w.params (Str.ofString "_initial_size")) (.str (Str.ofString "_initial_size") (t + 1)) (.int i2 tv))).get? d = some (accD w.params t2 i2 tv n2) := by
    rw [Heap.get?_update_self _ hd (by rfl)]
    rfl
  refine wpAny_bind (wpAny_lookBehind D' (pastItsLine_dict (by simp [sizeLine_eq])) ?_)
  exact wpAny_pure (hq _ _ (Heap.SameBut.update ..).extBut D')
end
end
section
open PySem PySem.W PyProof.Rows PySem.Calls
section
variable {k : Nat} {sc : Scope} {loc : Locs} {cs : List AC}

theorem ex_clear {o value : Expr} {p pos' pos : Pos} {i j : Nat} {l init} (hv : Ev k sc loc cs value (.obj j) cs) (ho : Ev k sc loc cs o (.obj i) cs) (hc : cs[i]? = some (.acc l init)) (hj : cs[j]? = some (.strL [])) (hl : l.length ≤ 100000)
    (hs : ∀ env, swapsWith value (some (.Subscript o (.Slice none none none p) pos')) pos.line env = pure false) : Ex k sc loc cs (.Assign [.Subscript o (.Slice none none none p) pos'] value pos) .next loc (cs.set i (.acc [] init)) := by
  intro w c ρ s O R
  refine wpAny_Assign_Subscript (wpAny_mono (hv w c ρ s O R) (fun v s1 hq => ?_) fun _ _ x => x.elim) (hs _)
  refine hideG fun Gq hGq => ?_
  obtain ⟨ρ1, P1, b, rb, hb, rfl⟩ := hq
  refine hGq ?_
  clear hGq Gq
  refine wpAny_mono (ho w c ρ1 s1 O P1.rep) (fun ov s2 hq => ?_) fun _ _ x => x.elim
  refine hideG fun Gq hGq => ?_
  obtain ⟨ρ2, P2, a, ra, ha, rfl⟩ := hq
  refine hGq ?_
  clear hGq Gq
  refine wpAny_Slice (wpAny_evalPart_none (wpAny_evalPart_none (wpAny_evalPart_none ?_)))
  have P3 : Post c ρ2 s2 loc cs { s2 with heap := s2.heap.push { cls := .type "slice", data := .fields #[.none, .none, .none] }, toks := s2.toks } ρ2 := .heap P2.rep fun b o e => Heap.get?_push_of_some _ e
  have R3 := P3.rep
  refine hideG fun Gq hGq => ?_
  obtain ⟨d, its, n, t, t2, n2, rfl, hoa, hd, hpr⟩ := accInst R3 hc ha
  have hb2 := prefix_get P2.pre hb
  obtain ⟨vs, ⟨nb, hbl⟩, y, rfl⟩ := R3.strL hj hb2
  refine hGq ?_
  clear hGq Gq
  cases y
  have hne : b ≠ a := by rintro rfl; rw [hoa] at hbl; cases hbl
  have hlen := hpr.length
  refine setItem_acc (its := its.toArray) R3.stat.kt hoa (accInstAt hoa hd) (Heap.get?_push_size _ rfl) hbl (by simp; lia) hne fun h' t' hx hat => ?_
  obtain ⟨n', hat⟩ := hat
  have tk : TK _ h' := TK.of_extBut hx hoa (by simp)
  have hda : d ≠ a := by rintro rfl; rw [hoa] at hd; cases hd
  refine ⟨ρ2, ((P1.trans P2).trans P3).trans (R3.setCell (s' := { s2 with heap := h', toks := t' }) ha (.head _) hoa (by simp) hx (fun _ _ e => e) R3.stat.bare rfl ?_), rfl⟩
  exact ⟨a, d, [], n', t, rfl, hat, ⟨[⟨PyData.keyHash w.params "_initial_size", .str "_initial_size" t2, .int init t⟩], n2, hx _ _ hda hd, .cons ⟨t2, rfl⟩ .nil⟩, .nil⟩

theorem ex_setInit {o value : Expr} {pos' pos : Pos} {i : Nat} {l init i2} (hv : Ev k sc loc cs value (.int i2) cs) (ho : Ev k sc loc cs o (.obj i) cs) (hc : cs[i]? = some (.acc l init))
    (hs : ∀ env, swapsWith value (some (.Attribute o "_initial_size" pos')) pos.line env = pure false) : Ex k sc loc cs (.Assign [.Attribute o "_initial_size" pos'] value pos) .next loc (cs.set i (.acc l i2)) := by
  intro w c ρ s O R
  refine plainObj_wpAny_Assign_Attribute (wpAny_mono (hv w c ρ s O R) (fun v s1 hq => ?_) fun _ _ x => x.elim) (hs _)
  refine hideG fun Gq hGq => ?_
  obtain ⟨ρ1, P1, tv, rfl⟩ := hq
  refine hGq ?_
  clear hGq Gq
  refine wpAny_mono (ho w c ρ1 s1 O P1.rep) (fun ov s2 hq => ?_) fun _ _ x => x.elim
  refine hideG fun Gq hGq => ?_
  obtain ⟨ρ2, P2, a, ra, ha, rfl⟩ := hq
  have R3 := P2.rep
  obtain ⟨d, its, n, t, t2, n2, rfl, hoa, hd, hpr⟩ := accInst R3 hc ha
  refine hGq ?_
  clear hGq Gq
  refine acc_setattr R3.stat.kt hoa hd fun h' t' hx hat => ?_
  have tk : TK _ h' := TK.of_extBut hx hd (by simp)
  have hda : a ≠ d := by rintro rfl; rw [hoa] at hd; cases hd
  refine ⟨ρ2, (P1.trans P2).trans (R3.setCell (s' := { s2 with heap := h', toks := t' }) ha (.tail _ (.head _)) hd (by simp) hx (fun _ _ e => e) R3.stat.bare rfl ?_), rfl⟩
  exact ⟨a, d, its, n, tv, rfl, hx _ _ hda hoa, ⟨[⟨PyData.keyHash w.params "_initial_size", .str "_initial_size" t2, .int i2 tv⟩], n2, hat, .cons ⟨t2, rfl⟩ .nil⟩, hpr.mono tk⟩
end
end
section
open PySem PySem.W PyProof.Rows PySem.Calls

theorem ev_tup2 {k sc loc cs} {e1 e2 : Expr} {n p} {x y : Str} {cs1} (h : EvL k sc loc cs [e1, e2] [.str x, .str y] cs1) : Ev k sc loc cs (.Tuple [e1, e2] n p) (.tupS [x, y]) cs1 := ev_tupS (l := [x, y]) h (by simp)
end
local macro_rules | `(tactic| kl_some) => `(tactic| first
  | ((with_reducible apply ev_attr); (· kl_some); (· k_units))
  | ((with_reducible apply ev_method); (· kl_some); (· k_units); (· kl_some); (· ki_room); (· kl_room); (· exact fun _ => rfl); (· exact fun _ => rfl))
  | ((with_reducible apply ev_tup2); (· kl_some))
  | fail "none")
local macro_rules | `(tactic| k_units) => `(tactic| with_reducible first
  | (apply at_line; assumption)
  | (apply at_lines; assumption)
  | (apply at_maxlen; assumption)
  | (apply at_ws; assumption)
  | (apply at_wslen; assumption)
  | (apply at_init; assumption)
  | (apply m_push; assumption)
  | (apply m_pop; assumption)
  | (apply m_reset; assumption)
  | (apply m_onlyws; assumption)
  | (apply m_count; assumption)
  | (apply m_append; assumption)
  | (apply m_newline; assumption)
  | (apply m_feed; assumption)
  | (apply m_chunk; assumption)
  | (apply m_trans; assumption)
  | (apply m_str; assumption)
  | (apply m_maxl; assumption)
  | fail "none")
local macro_rules | `(tactic| ki_room) => `(tactic| with_reducible first
  | (apply cl_accAppend <;> assumption)
  | fail "none")
local macro_rules | `(tactic| kl_room) => `(tactic| first
  | with_reducible (first | exact cal190 | exact cal153 | exact cal175 | exact cal137 | exact cal50 | exact cal57 | exact cal71 | exact cal78 | exact cal85 | exact cal106 | exact cal160 | exact cal167 | exact cal182)
  | fail "none")
local macro_rules | `(tactic| kt_l_size) => `(tactic| first
  | ((with_reducible apply exs_cons); (· kt_l_size); (· kt_l_size))
  | with_reducible exact exs_nil
  | ((with_reducible apply ex_assign); (· kl_some); (· exact rfl); (· exact fun _ => rfl))
  | ((with_reducible apply ex_expr); (· kl_some); (· exact fun _ => rfl)))
section
open PySem PySem.W PyProof.Rows PySem.Calls
section
variable {k : Nat} {cs : List AC}
theorem cl_push {i : Nat} {l init} {x y : Str} (hc : cs[i]? = some (.acc l init)) (hl : l.length ≤ 100000) : Cl (k + 1) cs (.ref 137) [.obj i, .str x, .str y] .none (cs.set i (.acc (l ++ [(x, y)]) init)) := by
  apply cl_bf .next (fun P => fn137 P) rfl
  exact bf_cons (by kt_l_size) bf_nil
theorem cl_pop0 {i : Nat} {init} (hc : cs[i]? = some (.acc [] init)) : Cl (k + 2) cs (.ref 153) [.obj i] (.tupS [Str.ofString "", Str.ofString ""]) cs := by
  have h1 := cl_count (k := k) hc
  refine cl_fnA (f := .ret _) fn153 rfl (exsA_of (exs_ret (ex_ifT (cs1 := cs) (loc2 := _) (tst_eq (b := ((([] : List (Str × Str)).length : Int) == 0)) (by kl_some) rfl) (exs_ret (ex_ret (by kl_some))))))
theorem cl_pop {i : Nat} {l init} {x y : Str} (hc : cs[i]? = some (.acc (l ++ [(x, y)]) init)) (hl : l.length ≤ 100000) : Cl (k + 2) cs (.ref 153) [.obj i] (.tupS [x, y]) (cs.set i (.acc l init)) := by
  have h1 := cl_count (k := k) hc
  refine cl_fnA (f := .ret _) fn153 rfl (exsA_ifF (tst_eq (b := (((l ++ [(x, y)]).length : Int) == 0)) (by kl_some) (by simp; lia)) (exsA_ret (ev_super_pop hc hl rfl (fun _ => rfl))))
end
end
section
open PySem PySem.W PyProof.Rows PySem.Calls
section
variable {k : Nat} {sc : Scope} {loc : Locs} {cs : List AC}

theorem All2.snoc {α β : Type} {R : α → β → Prop} {l : List α} {m : List β} {a : α} {b : β} (x : All2 R l m) (h : R a b) : All2 R (l ++ [a]) (m ++ [b]) := by
  induction x with
  | nil => exact .cons h .nil
  | cons a _ ih => exact .cons a ih

theorem cl_fnD {a : Addr} {args : List AV} {f : AF} {cs' : List AC} {body : List Stmt} {names : List Str}
    (at_ : ∀ P, ∃ c d sl, (Kx P).lookup a = some ⟨c, d, .func (fdOf P a), sl⟩) (nt : a ∉ tabs) (cd : ∀ P, ∃ cc oc vs t, (fdOf P a).code = .ref cc ∧ cc ∉ tabs ∧ (Kx P).lookup cc = some oc ∧ oc.data = .fields vs ∧ vs[1]? = some (.str (fdOf P a).qualname t))
    (bod : ∀ P, (fdOf P a).body = .stmts body) (scp : ∀ P, (fdOf P a).scope = sc) (cell : ∀ x ∈ sc.names, x.2 ≠ .cell) (hloc : ∀ x ∈ names, sc.names.lookup x = some .local) (co : sc.isCoroutine = false) (gen : sc.isGenerator = false) (kind : sc.kind = .function)
    (glob : ∀ P, (fdOf P a).globals = mainGlobals) (blt : ∀ P, (fdOf P a).builtins = builtinsNs) (nd : names.Nodup) (bind : ∀ P (s : Shared), (∀ b o, (Kx P).lookup b = some o → b ∉ tabs → s.heap.get? b = some o) → ∀ vs : List Value, vs.length + 1 = names.length → BindsTo s (fdOf P a) ⟨vs, []⟩ (names.zip (vs ++ [.none])))
    (hl : names.length = args.length + 1) (h : Bf k sc (names.zip (args ++ [.none])) cs body f cs') : Cl (k + 1) cs (.ref a) args f.val cs' := by
  obtain ⟨loc', h⟩ := h
  intro w c ρ loc s vs scc O R V
  refine hideG fun Gq hGq => ?_
  obtain ⟨oc, od, osl, hat⟩ := at_ w.params
  obtain ⟨cc, ocd, cvs, t, hcode, hct, hcl, hcd, hc1⟩ := cd w.params
  refine hGq ?_
  clear hGq Gq
  have hlen : vs.length + 1 = names.length := by rw [hl, V.length]
  have V2 : All2 (VRep ρ s.heap) (args ++ [.none]) (vs ++ [.none]) := All2.snoc V rfl
  have hl2 : names.length = (args ++ [AV.none]).length := by simp [hl]
  have hlen2 : (vs ++ [Value.none]).length = names.length := by simp [hlen]
  refine wpAny_call (codeAny_call_def (binds := names.zip (vs ++ [.none])) (by have := O.depth; have e : recursionLimit = 1000 := rfl; lia) (R.stat.keep _ _ (c.B.K _ _ hat) nt) rfl R.stat.lim
    ⟨cc, ocd, cvs, t, hcode, R.stat.keep _ _ (c.B.K _ _ hcl) hct, hcd, hc1⟩ (bod _) (bind _ s (fun b o e n => R.stat.keep _ _ (c.B.K _ _ e) n) vs hlen) (by rw [scp]; exact cell) ?_ ?_ (by rw [scp]; exact co) (by rw [scp]; exact gen) (by rw [scp]; exact kind))
  · intro x hx
    rw [scp]
    exact hloc _ (List.of_mem_zip hx).1
  · intro h0 hns hk
    have R0 := R.enter (a := a) (tk := s.toks + (names.zip (vs ++ [.none])).length) hns hk (loc0 := names.zip (args ++ [.none])) (by
      intro x v e
      have := VRep.args names V2 hl2 x v e
      rw [lookup_reverse_nodup _ _ (by rw [List.map_fst_zip (by lia)]; exact nd)]
      exact this)
    have O2 : (c.callee a s.heap.objs.size loc).OK k sc := ⟨scp _, kind, glob _, blt _, O.hd, (by show (c.A.frames.map _) = _; rw [O.fr]; rfl), (by have := O.depth; show c.A.depth + 1 + k ≤ 800; lia), (by have := O.units; show c.A.units + 3 + 20 * k ≤ 9000; lia), (by
      intro e he
      rcases List.mem_cons.mp he with rfl | he
      · exact ⟨O.skind, (c.L, loc), .head _, rfl⟩
      · obtain ⟨h1, p, hp, h2⟩ := O.out e he
        exact ⟨h1, p, List.mem_cons_of_mem _ hp, h2⟩)⟩
    refine wpAny_mono (h w _ ρ _ O2 R0) (fun f' s' hq => ?_) fun _ _ x => x.elim
    obtain ⟨ρ', P, q⟩ := hq
    refine ⟨ρ', P.leave (TK.of_keeps hk), ?_⟩
    cases f with
    | next => cases q; rfl
    | ret v => obtain ⟨v', rfl, q⟩ := q; exact q

theorem set_append {i : Nat} {x y : AC} (h : i < cs.length) : (cs ++ [x]).set i y = cs.set i y ++ [x] := List.set_append_left _ _ h
theorem get_append {i : Nat} {x y : AC} (h : cs[i]? = some y) : (cs ++ [x])[i]? = some y := by
  rw [List.getElem?_append_left (List.getElem?_eq_some_iff.mp h).1]; exact h
theorem lt_of_get {i : Nat} {y : AC} (h : cs[i]? = some y) : i < cs.length := (List.getElem?_eq_some_iff.mp h).1
theorem get_set_self {i : Nat} {x y : AC} (h : cs[i]? = some y) : (cs.set i x)[i]? = some x := List.getElem?_set_self (lt_of_get h)

theorem cl_reset {i : Nat} {l init} (hc : cs[i]? = some (.acc l init)) (hl : l.length ≤ 100000) (hcl : ∀ ac ∈ cs, Closed cs.length ac) : Cl (k + 1) cs (.ref 175) [.obj i] .none (cs.set i (.acc [] 0)) := by
  have h1 := get_append (x := AC.strL []) hc
  have hj : (cs ++ [AC.strL []])[cs.length]? = some (.strL []) := by simp
  have h2 := get_set_self (x := AC.acc [] init) h1
  have key : Cl (k + 1) cs (.ref 175) [.obj i] .none (((cs ++ [AC.strL []]).set i (AC.acc [] init)).set i (AC.acc [] 0)) := by
    refine cl_fnD (f := .next) (sc := scA 175) (body := bodyA 175) (names := ["self", "startval"]) (fun P => ⟨_, _, _, rfl⟩) (by decide) (fun P => ⟨_, _, _, _, rfl, by decide, rfl, rfl, rfl⟩) (fun P => rfl) (fun P => rfl) (by decide) (by decide) rfl rfl rfl (fun P => rfl) (fun P => rfl) (by decide) ?_ rfl ?_
    · intro P s hk
      refine fun vs hl => (len1 (fun v0 => ?_) : ∀ vs : List Value, vs.length = 1 → BindsTo s (fdOf P 175) ⟨vs, []⟩ ([Str.ofString "self", Str.ofString "startval"].zip (vs ++ [Value.none]))) vs (Nat.succ.inj hl)
      have e : ∃ T, (fdOf P 175).defaults = .ref T ∧ T ∉ tabs ∧ ∃ o items n, (Kx P).lookup T = some o ∧ o.data = .seq items n ∧ ∃ k, bindArgs (fdOf P 175) ⟨[v0], []⟩ = seqItems? (fdOf P 175).defaults >>= k ∧ k (some items) = pure [(Str.ofString "self", v0), (Str.ofString "startval", .none)] := ⟨_, rfl, by decide, _, _, _, rfl, rfl, _, rfl, by kernel_rfl⟩
      refine hideG fun Gq hGq => ?_
      obtain ⟨T, h1, h2, o, items, n, h3, h4, k, h5, h6⟩ := e
      refine hGq ?_
      clear hGq Gq
      exact BindsTo.of_defaults h1 (hk _ _ h3 h2) h4 h5 h6
    · refine bf_cons (ex_ifT (cs1 := cs) (tst_cmpc (a := .none) (b := .none) (v := true) (ev_local rfl rfl rfl) ev_none (cmp_isNone .none (fun u e => by cases e)).c rfl) (exs_cons (ex_assign (ev_listS (l := []) evl_nil (by decide)) rfl (fun _ => rfl)) exs_nil)) ?_
      refine bf_cons (ex_clear (ev_local rfl rfl rfl) (ev_local rfl rfl rfl) h1 hj hl (fun _ => rfl)) ?_
      exact bf_cons (ex_setInit ev_int (ev_local rfl rfl rfl) h2 (fun _ => rfl)) bf_nil
  have e : ((cs ++ [AC.strL []]).set i (AC.acc [] init)).set i (AC.acc [] 0) = cs.set i (AC.acc [] 0) ++ [AC.strL []] := by
    rw [List.set_set, set_append (lt_of_get hc)]
  rw [e] at key
  have ht : (cs.set i (AC.acc [] 0) ++ [AC.strL []]).take cs.length = cs.set i (AC.acc [] 0) := List.take_left' (by simp)
  have := cl_cut cs.length key (Nat.le_refl _) (by
    rw [ht]
    intro ac hm
    rcases List.mem_or_eq_of_mem_set hm with h | rfl
    · exact hcl ac h
    · trivial) (by intro i e; cases e)
  rwa [ht] at this
end
end
section
open PySem PySem.W PyProof.Rows PySem.Calls

noncomputable def Items (h : Heap) (a : Addr) (items : Array Value) : Prop := ∃ o n, h.get? a = some o ∧ o.data = .seq items n
theorem Items.at {h h' : Heap} {a items} (x : Items h a items) (e : ∀ o, h.get? a = some o → h'.get? a = some o) : Items h' a items := let ⟨o, n, ho, hd⟩ := x; ⟨o, n, e _ ho, hd⟩

section
variable {prog : Program} {w : World} {A : Around} {E : Value → Shared → Prop} {s : Shared}
theorem next_item {it l : Addr} {i : Nat} {items} {x : Value} {Q : Option Value → Shared → Prop} (hit : s.heap.IsListIter it l i) (hl : Items s.heap l items) (hx : items[i]? = some x)
    (hQ : ∀ h', h'.IsListIter it l (i + 1) → Heap.SameBut it s.heap h' → Q (some x) { s with heap := h' }) : wpAny (model prog w) A (pyNext (.ref it)) Q E s := by
  refine hideG fun Gq hGq => ?_
  obtain ⟨o, ho, hc, hd⟩ := id hit
  obtain ⟨ol, nl, hol, hdl⟩ := hl
  refine hGq ?_
  clear hGq Gq
  unfold pyNext
  refine wpAny_bind (wpAny_attempt (wpAny_callSpecial?_slot (name := Str.ofString "__next__") hit.typeIs slot_listiter_next (wpAny_call_entry slot_listiter_next hit.typeIs entry_listiter_next ?_ (args_listiter_next _))))
  show wpAny _ _ (field (.ref it) 0 >>= _) _ _ s
  refine wpAny_bind (wpAny_field ho hd (x := .ref l) rfl ?_)
  show wpAny _ _ (if (Value.ref l == Value.none) = true then _ else _) _ _ s
  rw [if_neg (show ¬ ((Value.ref l == Value.none) = true) from Bool.false_ne_true)]
  show wpAny _ _ (field (.ref it) 1 >>= _) _ _ s
  refine wpAny_bind (wpAny_field ho hd (x := .int i 0) rfl ?_)
  show wpAny _ _ (seqItems? (.ref l) >>= _) _ _ s
  refine wpAny_bind (wpAny_seqItems hol hdl ?_)
  simp only [Int.toNat_natCast, hx]
  refine wpAny_bind (wpAny_setField ho hd (by simp) (wpAny_pure ⟨x, rfl, wpAny_pure (hQ _ ?_ (Heap.SameBut.update ..))⟩))
  exact ⟨_, Heap.get?_update_self _ ho (Obj.isFreed_of_fields (Obj.data_mapFields hd _)), (Obj.cls_mapFields ..).trans hc, by
    rw [Obj.data_mapFields hd]; simp [rawInt]⟩
theorem next_end {it l : Addr} {i : Nat} {items} {Q : Option Value → Shared → Prop} (hh : A.handled = none) (hit : s.heap.IsListIter it l i) (hl : Items s.heap l items) (hx : items[i]? = none)
    (hQ : ∀ h', Heap.ExtBut it s.heap h' → Q none { s with heap := h' }) : wpAny (model prog w) A (pyNext (.ref it)) Q E s := by
  refine hideG fun Gq hGq => ?_
  obtain ⟨o, ho, hc, hd⟩ := id hit
  obtain ⟨ol, nl, hol, hdl⟩ := hl
  refine hGq ?_
  clear hGq Gq
  unfold pyNext
  refine wpAny_bind (wpAny_attempt (wpAny_callSpecial?_slot (name := Str.ofString "__next__") hit.typeIs slot_listiter_next (wpAny_call_entry slot_listiter_next hit.typeIs entry_listiter_next ?_ (args_listiter_next _))))
  show wpAny _ _ (field (.ref it) 0 >>= _) _ _ s
  refine wpAny_bind (wpAny_field ho hd (x := .ref l) rfl ?_)
  show wpAny _ _ (if (Value.ref l == Value.none) = true then _ else _) _ _ s
  rw [if_neg (show ¬ ((Value.ref l == Value.none) = true) from Bool.false_ne_true)]
  show wpAny _ _ (field (.ref it) 1 >>= _) _ _ s
  refine wpAny_bind (wpAny_field ho hd (x := .int i 0) rfl ?_)
  show wpAny _ _ (seqItems? (.ref l) >>= _) _ _ s
  refine wpAny_bind (wpAny_seqItems hol hdl ?_)
  simp only [Int.toNat_natCast, hx]
  refine wpAny_bind (wpAny_rule (wpAny_bind (wpAny_setField ho hd (by simp) ?_)))
  show wpAny _ _ (newExc (.type "StopIteration") [] >>= _) _ _ _
  refine wpAny_bind ?_
  simp only [newExc, newTuple]
  refine wpAny_bind (wpAny_newObj_type ?_ (by size_fits))
  refine wpAny_bind (m := firstArgMember _ _) (wpAny_of_eq (a := Value.none) (by first | rfl | (simp only [firstArgMember]; rfl)) ?_)
  refine wpAny_newObj_type ?_ (by size_fits)
  simp only [raiseNew]
  refine wpAny_bind (wpAny_handled ?_)
  rw [show A.in1.handled = none from hh]
  refine wpAny_bind (wpAny_pure (wpAny_throw ?_))
  refine wpAny_bind (wpAny_isInstance (T := "StopIteration") (b := true) ⟨_, Heap.get?_push_size _ rfl, rfl⟩ isSubtype_stop ?_)
  exact wpAny_pure (hQ _ (((Heap.SameBut.update ..).extBut.push _).push _))
end

theorem walkAcc {prog : Program} {w : World} {A : Around} (hh : A.handled = none) (I ax : Addr) (hne : ax ≠ I) (items : Array Value) (Ts : Nat → Addr) (vals : Nat → Array Value)
    (hit : ∀ j, j < items.size → items[j]? = some (.ref (Ts j))) (hTI : ∀ j, j < items.size → Ts j ≠ I) :
    WalksU prog w A I (I :: ax :: (List.range items.size).map Ts) [I] items.size (fun j v => v = vals j)
      (fun j h => h.IsListIter I ax j ∧ Items h ax items ∧ ∀ k, k < items.size → h.IsTuple (Ts k) (vals k))
      (fun j T h => (j < items.size ∧ T = Ts j) ∧ h.IsListIter I ax (j + 1) ∧ Items h ax items ∧ ∀ k, k < items.size → h.IsTuple (Ts k) (vals k)) where
  sub := fun b hb => by simp at hb; simp [hb]
  frame := fun _ _ _ st hk => ⟨st.1.at fun o e => hk I (by simp) o e, st.2.1.at fun o e => hk ax (by simp) o e,
    fun k hk' => (st.2.2 k hk').at fun o e => hk (Ts k) (List.mem_cons_of_mem _ (List.mem_cons_of_mem _ (List.mem_map.mpr ⟨k, List.mem_range.mpr hk', rfl⟩))) o e⟩
  item := fun i s Q E hi st hQ => by
    refine next_item st.1 st.2.1 (x := .ref (Ts i)) (hit i hi) fun h' hit' hs' => ?_
    have tup : ∀ k, k < items.size → h'.IsTuple (Ts k) (vals k) := fun k hk' => (st.2.2 k hk').extBut hs'.extBut (hTI k hk')
    exact hQ (Ts i) (vals i) h' s.toks rfl (tup i hi) ⟨⟨hi, rfl⟩, hit', st.2.1.at (fun o e => hs'.extBut ax o hne e), tup⟩ fun b o hb e => hs'.extBut b o (fun h => hb (by simp [h])) e
  go := fun _ _ _ _ _ s Q _ hm hQ => wpAny_letOwnedTupleGo_listiter hm.2.1 (hQ s.heap hm.2 fun _ _ _ e => e)
  apart := fun j T _ hm hmem => by
    rcases List.mem_cons.mp hmem with e | e
    · exact hTI j hm.1.1 (hm.1.2 ▸ e)
    · cases e
  done := fun s Q E st hQ => next_end hh st.1 st.2.1 (by simp) fun h' he' => hQ h' s.toks fun b o hb e => he' b o (fun h => hb (by simp [h])) e
  self := fun _ _ _ _ st hQ => wpAny_pyIter_listiter st.1 hQ
end
section
open PySem PySem.W PyProof.Rows PySem.Calls
theorem entry_liter : entryFor table "list.__iter__" = some Builtin.«list.__iter__» := entryFor_of_tree (by kernel_rfl)
section
variable {prog : Program} {w : World} {A : Around} {E : Value → Shared → Prop} {s : Shared}
theorem iter_acc {P : Params} {a d : Addr} {its : Array Value} {n : Nat} {od : Option Obj} {Q : Value → Shared → Prop} (X : (Kt P).In s.heap) (I : InstAt s.heap a ⟨.ref 193, some d, .seq its n, #[]⟩ 193 od)
    (hQ : Q (.ref s.heap.objs.size) { s with heap := s.heap.push { cls := .type "list_iterator", data := .fields #[.ref a, .int 0 0] } }) : wpAny (model prog w) A (pyIter (.ref a)) Q E s := by
  have hf : findIn (Kt P) (.ref 193) (Str.ofString "__iter__") = some (some (.builtin "list.__iter__")) := by kernel_rfl
  have L : Looks (model prog w) s.heap (specialOf (.ref a) (Str.ofString "__iter__")) (some (.builtin "list.__iter__")) := (I.type (M := model prog w)).andThen (looks_findIn (M := model prog w) X hf)
  unfold pyIter
  refine wpAny_bind (L.here ?_)
  show wpAny _ _ (callSpecialIfBoundUnlessNone? (.ref a) "__iter__" _ >>= _) Q E s
  refine wpAny_bind ?_
  simp only [callSpecialIfBoundUnlessNone?, bindSpecialIfBound?]
  refine wpAny_holding (wpAny_bind (wpAny_bind (L.here ?_)))
  simp only [slot_list_iter.bind]
  refine wpAny_bind (wpAny_askSetting (wpAny_ite ?_))
  have run : wpAny (model prog w) A (call (.builtin "list.__iter__") [.ref a]) (fun v s' => v = .ref s.heap.objs.size ∧ s' = { s with heap := s.heap.push { cls := .type "list_iterator", data := .fields #[.ref a, .int 0 0] } }) E s := by
    refine sub_call (owner := "list") (n := "__iter__") X I (by kernel_rfl) (by decide +kernel) (.inl (by decide +kernel)) slot_list_iter.plain entry_list_iter (args_list_iter _) ?_
    show wpAny _ _ (do ret (← newFields "list_iterator" [.ref a, rawInt 0])) _ _ s
    exact wpAny_bind (wpAny_newObj_type (wpAny_pure ⟨rfl, rfl⟩))
  have last : ∀ (Q' : Option Value → Shared → Prop), (Q' (some (.ref s.heap.objs.size)) { s with heap := s.heap.push { cls := .type "list_iterator", data := .fields #[.ref a, .int 0 0] } }) →
      wpAny (model prog w) A (call (.builtin "list.__iter__") [.ref a] >>= fun v => pure (some v)) Q' E s := fun Q' q =>
    wpAny_bind (wpAny_mono run (fun v s' h' => by obtain ⟨rfl, rfl⟩ := h'; exact wpAny_pure q) fun _ _ h' => h')
  have nx : ∀ s' : Shared, s'.TypeIs (.ref s.heap.objs.size) "list_iterator" → Q (.ref s.heap.objs.size) s' → wpAny (model prog w) A (do
      match ← specialOf (.ref s.heap.objs.size) "__next__" with
      | none => rule "iter.non-iterator"; raiseError "TypeError" s!"iter() returned non-iterator of type '{← typeNameOf (.ref s.heap.objs.size)}'"
      | some _ => pure (.ref s.heap.objs.size)) Q E s' := fun s' hT q => wpAny_bind (wpAny_specialOf hT slot_listiter_next.lookup (wpAny_pure q))
  have hT2 : ({ s with heap := s.heap.push { cls := .type "list_iterator", data := .fields #[.ref a, .int 0 0] } } : Shared).TypeIs (.ref s.heap.objs.size) "list_iterator" := ⟨_, Heap.get?_push_size _ rfl, rfl⟩
  split
  · refine wpAny_bind (wpAny_pure (wpAny_pure ?_))
    simp only [builtin_beq_none, Bool.false_eq_true, if_false]
    exact last _ (nx _ hT2 hQ)
  · refine wpAny_tryCatch (wpAny_bind (wpAny_pure (wpAny_pure ?_)))
    simp only [builtin_beq_none, Bool.false_eq_true, if_false]
    exact last _ (nx _ hT2 hQ)
end
end
section
open PySem PySem.W PyProof.Rows PySem.Calls
section
variable {w : World} {c : Cx w} {ρ : List (List Addr)} {loc : Locs} {cs : List AC} {s : Shared}

theorem TK.tab {h h' : Heap} {P : Addr} {vs : Array Value} (hx : Heap.ExtBut P h h') (ho : h.get? P = some { cls := .none, data := .fields vs }) : TK h h' := TK.of_extBut hx ho (by simp)
theorem Rep.tabUpd (R : Rep c ρ loc cs s) {P : Addr} (hP : P ∈ tabs) {h' : Heap} {tk : Tok} {ps : Array Value} (hx : Heap.ExtBut P s.heap h') (hg : h'.get? P = some { cls := .none, data := .fields ps }) (ht : TriplesOk ps.toList) :
    Post c ρ s loc cs { s with heap := h', toks := tk } ρ := by
  obtain ⟨vs, e0, _⟩ := R.stat.tab P hP
  have tk0 : TK s.heap h' := TK.tab hx e0
  have ne : ∀ a ∈ c.L :: (c.own ++ ρ.flatten), a ≠ P := fun a ha e => (R.fresh a ha).2 (e ▸ hP)
  refine ⟨List.prefix_refl _, tk0, ⟨⟨fun b o e n => hx b o (by rintro rfl; exact n hP) (R.stat.keep b o e n), fun b hb => ?_, R.stat.bare, R.stat.os⟩, ?_, ?_, ?_, R.len, ?_, R.apart, R.fresh⟩⟩
  · by_cases h : b = P
    · subst h; exact ⟨ps, hg, ht⟩
    · obtain ⟨vs, e, te⟩ := R.stat.tab b hb
      exact ⟨vs, hx b _ h e, te⟩
  · exact R.fr.mono (List.prefix_refl _) tk0 fun _ n => n.extBut hx (ne _ (.head _))
  · exact fun p hp => (R.frs p hp).mono (List.prefix_refl _) tk0 fun _ n => n.extBut hx (ne _ (List.mem_cons_of_mem _ (List.mem_append_left _ (List.mem_append_left _ (List.mem_map_of_mem hp)))))
  · exact fun p hp => hx _ _ (ne _ (List.mem_cons_of_mem _ (List.mem_append_left _ (List.mem_append_right _ (List.mem_map_of_mem hp))))) (R.frz p hp)
  · intro i ac as hi ha
    exact (R.cells i ac as hi ha).mono (List.prefix_refl _) tk0 (fun a hm o e => hx a o (ne _ (List.mem_cons_of_mem _ (List.mem_append_right _ (getElem?_mem_flatten ha hm)))) e) fun _ _ e => e

structure GenFn (P : Params) (a cc T : Addr) : Prop where
  code : (fdOf P a).code = .ref cc
  nt : cc ∉ tabs
  tab : T ∈ tabs
  ne : cc ≠ T
  at_ : ∃ o vs file tf flags tg inF text tt, (Kx P).lookup cc = some o ∧ o.data = .fields vs ∧ vs.getD 11 .none = .ref T ∧ vs.getD 18 .none = .str file tf ∧ vs.getD 7 .none = .int flags tg ∧ vs.getD 9 .none = .bool inF ∧ vs.getD 10 .none = .int text tt ∧ o.cls = .type "code" ∧ vs[11]? = some (.ref T)
theorem gen160 (P : Params) : GenFn P 160 159 155 := ⟨rfl, by decide, by decide, by decide, ⟨_, _, _, _, _, _, _, _, _, rfl, rfl, rfl, rfl, rfl, rfl, rfl, rfl, rfl⟩⟩
theorem gen167 (P : Params) : GenFn P 167 166 162 := ⟨rfl, by decide, by decide, by decide, ⟨_, _, _, _, _, _, _, _, _, rfl, rfl, rfl, rfl, rfl, rfl, rfl, rfl, rfl⟩⟩

theorem gen_code {a cc T : Addr} {M : Model} {A : Around} {E : Value → Shared → Prop} {pos : Pos} {q : Str} {scope : Scope} {Q : Value → Shared → Prop} (F : GenFn w.params a cc T) (hfd : c.fd = fdOf w.params a) (R : Rep c ρ loc cs s)
    (hQ : ∀ code h' tk, Post c ρ s loc cs { s with heap := h', toks := tk } ρ → Heap.ExtBut T s.heap h' → Q code { s with heap := h', toks := tk }) : wpAny M A (genexprCode c.env pos q scope) Q E s := by
  refine hideG fun Gq hGq => ?_
  obtain ⟨o, vs, file, tf, flags, tg, inF, text, tt, hl, hd, h11, h18, h7, h9, h10, hcls, h11'⟩ := F.at_
  obtain ⟨ps, hps, htr⟩ := R.stat.tab T F.tab
  refine hGq ?_
  clear hGq Gq
  have ho := R.stat.keep _ _ (c.B.K _ _ hl) F.nt
  have hok : s.heap.IsCode cc T ps := ⟨o, vs, file, tf, flags, tg, inF, text, tt, _, ho, hd, h11, h18, h7, h9, h10, hps, rfl, htr, F.ne⟩
  have htab : s.heap.TableAt cc T ps := ⟨⟨o, vs, ho, hcls, hd, h11'⟩, hps⟩
  have hcode : c.env.code = .ref cc := by have e : c.env.code = c.fd.code := rfl; rw [e, hfd]; exact F.code
  cases hc : codeAmong pos ps.toList with
  | some cv => exact wpAny_genexprCode_hit hcode hok hc (hQ cv s.heap s.toks (.refl R) (Heap.ExtBut.refl _ _))
  | none =>
    refine wpAny_genexprCodeX hcode hok htab hc fun c' h' tk hx _ _ hok' _ htab' _ => hQ _ h' tk ?_ hx
    refine hideG fun Gq hGq => ?_
    obtain ⟨_, _, _, _, _, _, _, _, _, op, _, _, _, _, _, _, _, hop, hpd, htr', _⟩ := hok'
    refine hGq ?_
    clear hGq Gq
    have e := htab'.2
    rw [e] at hop
    cases hop
    cases hpd
    exact R.tabUpd F.tab hx e htr'

theorem gl_builtins (P : Params) : ∃ bm d sl, glOf P 3 (Str.ofString "__builtins__") = some (.ref bm) ∧ bm ≠ builtinsNs ∧ bm ∉ tabs ∧ (Kx P).lookup bm = some ⟨.type "module", d, .plain, sl⟩ ∧ d = some builtinsNs := ⟨_, _, _, rfl, by decide, by decide, rfl, rfl⟩
theorem blt_for {M : Model} {A : Around} {E : Value → Shared → Prop} {Q : Addr → Shared → Prop} {run : Addr} (hg : c.env.globals = mainGlobals) (R : Rep c ρ loc cs s) (h : Q builtinsNs s) : wpAny M A (builtinsFor c.env.globals run) Q E s := by
  refine hideG fun Gq hGq => ?_
  obtain ⟨bm, d, sl, h1, h2, h3, h4, rfl⟩ := gl_builtins w.params
  refine hGq ?_
  clear hGq Gq
  have n1 : s.heap.Ns c.env.globals c.B.mg := by rw [hg]; exact R.stat.ns c.B.ng (by decide)
  exact wpAny_builtinsFor n1 (by rw [ns_glOf c.B.K c.B.ng rfl]; exact h1) h2 (R.stat.keep _ _ (c.B.K _ _ h4) h3) rfl rfl rfl h
end
end
section
open PySem PySem.W PyProof.Rows PySem.Calls
section
variable {prog : Program} {w : World} {A : Around} {E : Value → Shared → Prop} {s : Shared} {I : Addr} {fp wr : List Addr} {G : Array GenState → Array GenState → Prop} {n : Nat} {P : Nat → Value → Prop} {St : Nat → Shared → Prop}

noncomputable def shP (P : Nat → Value → Prop) : Nat → Value → Prop
  | 0, _ => False
  | i + 1, v => P i v
noncomputable def shS (St : Nat → Shared → Prop) : Nat → Shared → Prop
  | 0, _ => False
  | i + 1, s => St i s
noncomputable def shV (a : Int) (val : Nat → Int) : Nat → Int
  | 0 => a
  | i + 1 => val i
theorem shift (W : WalksS prog w A I fp wr G n P St) : WalksS prog w A I fp wr G (n + 1) (shP P) (shS St) where
  sub := W.sub
  grefl := W.grefl
  gtrans := W.gtrans
  frame := fun i s h' tk st ht hk => by
    cases i with
    | zero => exact st.elim
    | succ i => exact W.frame i s h' tk st ht hk
  item := fun i s Q E hi st hQ => by
    cases i with
    | zero => exact st.elim
    | succ i => exact W.item i s Q E (by lia) st fun v s' hp hs hm => hQ v s' hp hs hm
  done := fun s Q E st hQ => W.done s Q E st hQ
  self := fun i s Q E st hQ => by
    cases i with
    | zero => exact st.elim
    | succ i => exact W.self i s Q E st hQ
theorem preSum_sh (a : Int) (val : Nat → Int) : ∀ i, preSum (shV a val) (i + 1) = a + preSum val i
  | 0 => by simp [preSum, shV]
  | i + 1 => by rw [preSum, preSum_sh a val i, preSum]; simp only [shV]; lia

theorem args_sum2 (a b : Value) : argsOk "sum" ⟨[a, b], []⟩ := by unfold argsOk; kernel_rfl
theorem call_sum_start {x : Value} {i0 : Int} {t0 : Tok} {Q : Value → Shared → Prop} (h0 : -1000000 ≤ i0 ∧ i0 ≤ 1000000)
    (h : wpAny (model prog w) A.in1 (pyIter x) (fun it s₂ => ∃ I fp wr G n P St val, it = .ref I ∧ WalksS prog w A.in1 I fp wr G n P St ∧ St 0 s₂ ∧ (∀ b ∈ fp, b < s₂.heap.objs.size) ∧
      (∀ i v, P i v → ∃ t, v = .int (val i) t) ∧ (∀ j, j < n → (-1000000 ≤ val j ∧ val j ≤ 1000000) ∧ -1000000000 ≤ preSum val (j + 1) ∧ preSum val (j + 1) ≤ 1000000000) ∧
      ∀ s' t', Moved wr G s₂ s' → Q (.int (i0 + preSum val n) t') s') E s) :
    wpAny (model prog w) A (call (.builtin "sum") [x, .int i0 t0]) Q E s := by
  refine call_function_tree PySem.F.kind_sum PySem.F.plain_sum PySem.F.entry_sum (args_sum2 _ _) ?_
  unfold Builtin.«sum»
  simp only [List.length_cons, List.length_nil]
  rw [if_neg (by decide)]
  refine wpAny_bind (wpAny_of_eq (show Builtin.Builtins.bindParams "sum" ["start"] 0 ⟨[.int i0 t0], []⟩ = pure [some (.int i0 t0)] from rfl) ?_)
  refine wpAny_bind (wpAny_mono h (fun it s₂ h₂ => ?_) fun _ _ e => e)
  refine hideG fun Gq hGq => ?_
  obtain ⟨I, fp, wr, G, n, P, St, val, rfl, W, hst, hfp, hval, hfit, hQ⟩ := h₂
  refine hGq ?_
  clear hGq Gq
  have hfl : (decide (-(2 ^ 63) ≤ i0) && decide (i0 < 2 ^ 63)) = true := by
    simp only [Bool.and_eq_true, decide_eq_true_eq]; lia
  dsimp only
  split
  rotate_left
  · rename_i hn
    exact absurd hfl hn
  refine wpAny_bind (wpAny_rule (wpAny_bind (wpAny_mkInt ?_)))
  refine wpAny_bind (wpAny_pure ?_)
  simp only [List.forIn_cons, List.forIn_nil]
  refine wpAny_bind (wpAny_bind (wpAny_bind (wpAny_isInstance (T := "int") (b := false) (typeIs_int _ _ _) PySem.F.sub_int_str ?_)))
  simp only [Bool.false_eq_true, if_false]
  refine wpAny_pure (wpAny_bind (wpAny_bind (wpAny_isInstance (T := "int") (b := false) (typeIs_int _ _ _) sub_int_bytes ?_)))
  simp only [Bool.false_eq_true, if_false]
  refine wpAny_pure (wpAny_bind (wpAny_bind (wpAny_isInstance (T := "int") (b := false) (typeIs_int _ _ _) sub_int_bytearray ?_)))
  simp only [Bool.false_eq_true, if_false]
  refine wpAny_pure (wpAny_pure ?_)
  refine wpAny_bind (wpAny_newObj_type ?_)
  have hSf : s₂.heap.objs.size ∉ fp := fun hm => Nat.lt_irrefl _ (hfp _ hm)
  refine wpAny_pure ⟨plainId_quiet PySem.F.plain_sum_loop _, codeAny_sum_loopS (shift W) (shV i0 val) ?_ ?_ s₂.heap.objs.size hSf n 1 _ s₂.toks 0 (by lia) (by lia)
    (W.frame 0 s₂ _ _ hst (by first | exact Nat.le_refl _ | exact Nat.le_succ _ | lia) fun b _ o e => Heap.get?_push_of_some _ e) ?_ fun s' t' hm => ?_⟩
  · intro i v hp
    cases i with
    | zero => exact hp.elim
    | succ i => exact hval i v hp
  · intro j hj
    have hp1 := preSum_sh i0 val
    cases j with
    | zero =>
      have e := hp1 0
      simp only [preSum, shV] at e ⊢
      refine ⟨⟨by lia, by lia⟩, ?_, ?_⟩ <;> lia
    | succ j =>
      obtain ⟨a, b⟩ := hfit j (by lia)
      rw [hp1 (j + 1)]
      simp only [shV]
      exact ⟨⟨by lia, by lia⟩, by lia, by lia⟩
  · have e : preSum (shV i0 val) 1 = i0 := by simp [preSum, shV]
    rw [e]
    exact Heap.get?_push_size _ rfl
  · rw [preSum_sh]
    exact hQ s' t' (hm.drop_new (by first | exact Nat.le_refl _ | exact Nat.le_succ _ | lia))
end
end
section
open PySem PySem.W PyProof.Rows PySem.Calls
section
variable {k : Nat} {sc : Scope} {loc : Locs} {cs : List AC}

noncomputable def accLen (l : List (Str × Str)) : Int := (l.map fun p => (p.1.length : Int) + p.2.length).sum
theorem Keeps.of {s : Shared} {h' : Heap} {tk : Nat} (k : ∀ b o, s.heap.get? b = some o → h'.get? b = some o) : Keeps s { s with heap := h', toks := tk } := ⟨h', tk, rfl, k⟩

noncomputable def EltOK (elt : Expr) (scope : Scope) (F : Str → Str → Value → Prop) : Prop :=
  ∀ (w : World) (B : Bs w) (A : Around) (E : Value → Shared → Prop) (cenv : Env) (s : Shared) (m : Str → Option Value) (x y : Str) (t u : Tok), A.handled = none → cenv.scope = scope → cenv.globals = mainGlobals → cenv.builtins = builtinsNs →
    s.heap.Ns mainGlobals B.mg → s.heap.Ns builtinsNs B.mb → s.heap.Ns cenv.locals m → m (Str.ofString "fws") = some (.str x t) → m (Str.ofString "part") = some (.str y u) → x.length + y.length ≤ 100000 →
    wpAny (MD w) A (eval elt cenv) (fun v s' => F x y v ∧ Keeps s s') E s

theorem pairs_addr {h : Heap} {vs : List Value} {l : List (Str × Str)} (H : PairsAre h vs l) : ∃ (Ts : Nat → Addr) (tk : Nat → Tok × Tok), ∀ j (hj : j < l.length), vs[j]? = some (.ref (Ts j)) ∧ IsTup h (Ts j) #[.str (l[j]).1 (tk j).1, .str (l[j]).2 (tk j).2] := by
  induction H with
  | nil => exact ⟨fun _ => 0, fun _ => (0, 0), fun j hj => by simp at hj⟩
  | @cons a x y t1 u1 vs l t _ ih =>
    obtain ⟨Ts, tk, h⟩ := ih
    refine ⟨fun j => match j with | 0 => a | j + 1 => Ts j, fun j => match j with | 0 => (t1, u1) | j + 1 => tk j, fun j hj => ?_⟩
    cases j with
    | zero => exact ⟨rfl, t⟩
    | succ j => simpa using h j (by simpa using hj)

theorem gen_pairs {w : World} {c : Cx w} {ρ s} {a cc T : Addr} {i : Nat} {l : List (Str × Str)} {init : Int} {elt : Expr} {pn pa pb pt : Pos} {kt : Nat} {scope : Scope} {pos : Pos} {F : Str → Str → Value → Prop} {Q : Value → Shared → Prop}
    (O : c.OK k sc) (R : Rep c ρ loc cs s) (G : GenFn w.params a cc T) (hfd : c.fd = fdOf w.params a) (hself : loc.lookup (Str.ofString "self") = some (.obj i)) (hsl : sc.names.lookup (Str.ofString "self") = some .local) (hc : cs[i]? = some (.acc l init))
    (hE : EltOK elt scope F) (hl : ∀ p ∈ l, p.1.length + p.2.length ≤ 100000) (hco : scope.isCoroutine = false) (hclos : ∀ env, closureFor scope env = pure []) (hcell : ∀ y ∈ scope.names, y.2 ≠ .cell) (h0 : scope.names.lookup (".0" : Str) = some NameKind.local)
    (hxa : scope.names.lookup (Str.ofString "fws") = some .local) (hxb : scope.names.lookup (Str.ofString "part") = some .local) (hkind : scope.kind = .function)
    (h : ∀ g s' St fp wr n0, Post c ρ s loc cs s' ρ → (∀ b o, b ≠ T → s.heap.get? b = some o → s'.heap.get? b = some o) → s.heap.objs.size ≤ s'.heap.objs.size → (∃ gs, gs.bare = true ∧ s'.gens = s.gens.push gs) → s'.os = s.os → n0 = s.gens.size → (∀ b ∈ fp, b < s'.heap.objs.size) → g ∈ fp → (∀ i s, St i s → s.TypeIs (.ref g) "generator") → St 0 s' → (∀ b ∈ wr, s.heap.objs.size ≤ b) →
      WalksS PW w c.A.in4 g fp wr (GenOnlyQ n0) l.length (fun j y => ∃ p, l[j]? = some p ∧ F p.1 p.2 y) St → Q (.ref g) s') :
    wpAny (MD w) c.A (eval (.GeneratorExp elt [⟨.Tuple [.Name (Str.ofString "fws") pa, .Name (Str.ofString "part") pb] kt pt, .Name (Str.ofString "self") pn, [], 0⟩] scope pos) c.env) Q (fun _ _ => False) s := by
  refine hideG fun Gq hGq => ?_
  obtain ⟨m, hn, hm⟩ := R.fr
  obtain ⟨vself, hms, x, r, hx, rfl⟩ := hm _ _ hself
  obtain ⟨d, its, n, t, t2, n2, rfl, ho, hd, hpr⟩ := accInst R hc hx
  obtain ⟨Ts, tks, hTs⟩ := pairs_addr hpr
  refine hGq ?_
  clear hGq Gq
  refine wpAny_GeneratorExp_walksQT O.hd hco (hclos _) hcell h0 hxa hxb (by decide) hkind (by have := O.depth; have e : recursionLimit = 1000 := rfl; lia) ?_ (fun x => rfl)
  refine wpAny_Name (wpAny_loadName_local O.skind (by rw [O.kindOf]; exact hsl) hn hms ?_) (by decide)
  refine iter_acc R.stat.kt (accInstAt ho hd) ?_
  have hlen := hpr.length
  have P2 : Post c ρ s loc cs { s with heap := s.heap.push { cls := .type "list_iterator", data := .fields #[.ref x, .int 0 0] }, toks := s.toks } ρ := .heap R fun b o e => Heap.get?_push_of_some _ e
  refine ⟨P2.rep.stat.lim, gen_code G hfd P2.rep fun code h' tk P3 hxT => blt_for O.globals P3.rep ?_⟩
  have hxI : x ≠ s.heap.objs.size := fun e => Nat.lt_irrefl _ (e ▸ Heap.lt_size ho)
  have P4 := P2.trans P3
  have k4 : ∀ b o, b ≠ T → s.heap.get? b = some o → h'.get? b = some o := fun b o hb e => hxT b o hb (Heap.get?_push_of_some _ e)
  have hTlt : ∃ vs, s.heap.get? T = some { cls := .none, data := .fields vs } := let ⟨vs, e, _⟩ := R.stat.tab T G.tab; ⟨vs, e⟩
  have hIT : s.heap.objs.size ≠ T := by
    obtain ⟨vs, e⟩ := hTlt
    exact fun h => Nat.lt_irrefl _ (h ▸ Heap.lt_size e)
  have hxT' : x ≠ T := by
    rintro rfl
    obtain ⟨vs, e⟩ := hTlt
    rw [ho] at e; cases e
  have hitI : h'.IsListIter s.heap.objs.size x 0 := ⟨_, hxT _ _ hIT (Heap.get?_push_size _ rfl), rfl, rfl⟩
  have hox : h'.get? x = some ⟨.ref 193, some d, .seq its.toArray n, #[]⟩ := k4 _ _ hxT' ho
  have hTup : ∀ j (hj : j < l.length), IsTup h' (Ts j) #[.str (l[j]).1 (tks j).1, .str (l[j]).2 (tks j).2] := fun j hj => P4.tk _ _ (hTs j hj).2
  let vals : Nat → Array Value := fun j => #[.str ((l[j]?.map (·.1)).getD ⟨#[]⟩) (tks j).1, .str ((l[j]?.map (·.2)).getD ⟨#[]⟩) (tks j).2]
  have hsz : its.toArray.size = l.length := by simpa using hlen
  have W0 : ∀ A' : Around, A'.handled = none → WalksU PW w A' s.heap.objs.size (s.heap.objs.size :: x :: (List.range its.toArray.size).map Ts) [s.heap.objs.size] its.toArray.size (fun j v => j < its.toArray.size ∧ v = vals j)
      (fun j h => h.IsListIter s.heap.objs.size x j ∧ Items h x its.toArray ∧ ∀ k, k < its.toArray.size → h.IsTuple (Ts k) (vals k))
      (fun j T h => (j < its.toArray.size ∧ T = Ts j) ∧ h.IsListIter s.heap.objs.size x (j + 1) ∧ Items h x its.toArray ∧ ∀ k, k < its.toArray.size → h.IsTuple (Ts k) (vals k)) := fun A' hA =>
    (walkAcc hA s.heap.objs.size x hxI its.toArray Ts vals (fun j hj => by simpa using (hTs j (by lia)).1) (fun j hj e => by
      obtain ⟨o, hoT, _⟩ := (hTs j (by lia)).2
      exact Nat.lt_irrefl _ (e ▸ Heap.lt_size hoT))).bound
  refine ⟨s.heap.objs.size, _, _, _, _, _, _, fun _ => true, fun j y => ∃ p, l[j]? = some p ∧ F p.1 p.2 y, rfl, W0, ?_, ?_, ?_, P4.rep.stat.lim, ?_, ?_, ?_⟩
  · rintro j v ⟨_, rfl⟩; exact ⟨_, _, rfl⟩
  · refine ⟨hitI, ⟨_, _, hox, rfl⟩, fun j hj => ?_⟩
    have hj' : j < l.length := by lia
    have e : vals j = #[.str (l[j]).1 (tks j).1, .str (l[j]).2 (tks j).2] := by simp [vals, List.getElem?_eq_getElem hj']
    rw [e]; exact IsTup.isTuple (hTup j hj')
  · intro b hb
    rcases List.mem_cons.mp hb with rfl | hb
    · obtain ⟨o, e, _⟩ := hitI; exact Heap.lt_size e
    rcases List.mem_cons.mp hb with rfl | hb
    · exact Heap.lt_size hox
    · obtain ⟨j, hj, rfl⟩ := List.mem_map.mp hb
      obtain ⟨o, e, _⟩ := hTup j (by have := List.mem_range.mp hj; lia)
      exact Heap.lt_size e
  · intro hm
    have hlt : cStatics < s.heap.objs.size := let ⟨_, hn, _⟩ := R.stat.lim; hn.lt
    rw [List.mem_singleton.mp hm] at hlt
    exact Nat.lt_irrefl _ hlt
  · intro href hkeep
    have old : ∀ (s₂ : Shared), (∀ b ∈ List.range h'.objs.size, b ∉ [s.heap.objs.size] → ∀ o, href.get? b = some o → s₂.heap.get? b = some o) → ∀ b o, s.heap.get? b = some o → h'.get? b = some o → s₂.heap.get? b = some o := fun s₂ hk b o e1 e2 =>
      hk b (List.mem_range.mpr (Heap.lt_size e2)) (fun hm => Nat.lt_irrefl _ (by have := Heap.lt_size e1; rw [List.mem_singleton.mp hm] at this; exact this)) o (hkeep _ _ e2)
    refine ⟨?_, ?_⟩
    · intro A' E' j va vb s₂ m₂ hA hP hns h1 h2 hk
      rw [List.forIn_nil]
      exact wpAny_pure ⟨rfl, Keeps.of fun _ _ e => e⟩
    · rintro A' E' j va vb s₂ m₂ hA ⟨hj, hv⟩ _ hns h1 h2 hk
      have hj' : j < l.length := by lia
      have e : vals j = #[.str (l[j]).1 (tks j).1, .str (l[j]).2 (tks j).2] := by simp [vals, List.getElem?_eq_getElem hj']
      rw [e] at hv
      have hva : va = .str (l[j]).1 (tks j).1 := by have := congrArg (fun a => a[0]?) hv; simpa using this
      have hvb : vb = .str (l[j]).2 (tks j).2 := by have := congrArg (fun a => a[1]?) hv; simpa using this
      have S4 := P4.rep.stat
      refine hideG fun Gq hGq => ?_
      obtain ⟨o3, es3, ep3, g3, q3⟩ := R.stat.ns c.B.ng (by decide)
      obtain ⟨o5, es5, ep5, g5, q5⟩ := R.stat.ns c.B.nb (by decide)
      refine hGq ?_
      clear hGq Gq
      refine wpAny_mono (hE w c.B A' E' _ s₂ m₂ (l[j]).1 (l[j]).2 (tks j).1 (tks j).2 hA rfl O.globals rfl ?_ ?_ hns (hva ▸ h1) (hvb ▸ h2) (hl _ (List.getElem_mem hj'))) (fun v s3 hq => ⟨⟨l[j], List.getElem?_eq_getElem hj', hq.1⟩, hq.2⟩) fun _ _ z => z
      · exact ⟨o3, es3, ep3, old s₂ hk _ _ g3 (k4 _ _ (fun e => absurd (e ▸ G.tab : mainGlobals ∈ tabs) (by decide)) g3), q3⟩
      · exact ⟨o5, es5, ep5, old s₂ hk _ _ g5 (k4 _ _ (fun e => absurd (e ▸ G.tab : builtinsNs ∈ tabs) (by decide)) g5), q5⟩
  · intro g h5 tk5 gs hbare hg1 hg2 hk5 WS hG0
    have hI5 : s.heap.objs.size < h'.objs.size := by obtain ⟨o, e, _⟩ := hitI; exact Heap.lt_size e
    have R5 := P4.rep.ext (s' := { s with heap := h5, gens := s.gens.push gs, toks := tk5 }) hk5 (fun g' gs' e => by obtain ⟨hlt, e'⟩ := Array.getElem?_eq_some_iff.mp e; rw [Array.getElem?_push_lt hlt, e']) (fun y hy => (Array.mem_push.mp hy).elim (R.stat.bare y) fun e => e ▸ hbare) rfl
    have hp : passing (fun _ => true) its.toArray.size 0 = List.range its.toArray.size := by simp [passing]
    have hp1 : (passing (fun _ => true) its.toArray.size 0).length = l.length := by rw [hp]; simpa using hsz
    refine h g _ _ _ _ _ (P4.trans ⟨List.prefix_refl _, TK.of_keeps hk5, R5⟩) (fun b o hb e => hk5 _ _ (k4 _ _ hb e)) (by show _ ≤ h5.objs.size; rw [hg2]; exact Nat.le_of_lt (Nat.lt_succ_of_lt (Nat.lt_trans hI5 hg1))) ⟨gs, hbare, rfl⟩ rfl rfl ?_ (.head _) (fun i s hs => hs.1.typeIs) hG0 ?_ (by rw [← hp1]; exact { WS with item := fun i s Q E hi st hQ => WS.item i s Q E hi st fun v s' hv => hQ v s' (by
      obtain ⟨i', e, hF⟩ := hv
      rw [hp] at e
      have hlt : i < its.toArray.size := by have := (List.getElem?_eq_some_iff.mp e).1; simpa using this
      rw [List.getElem?_range hlt] at e
      cases e; exact hF) })
    · intro b hb
      have h5s : b < h5.objs.size := by
        rw [hg2]
        rcases List.mem_cons.mp hb with rfl | hb
        · exact Nat.lt_succ_self _
        rcases List.mem_cons.mp hb with rfl | hb
        · exact Nat.lt_succ_of_lt hg1
        · exact Nat.lt_succ_of_lt (Nat.lt_trans (List.mem_range.mp hb) hg1)
      exact h5s
    · intro b hb
      rcases List.mem_cons.mp hb with rfl | hb
      · exact Nat.le_of_lt hI5
      · rw [List.mem_singleton.mp hb]; exact Nat.le_refl _
end
end
section
open PySem PySem.W PyProof.Rows PySem.Calls
theorem name_gl {w : World} {B : Bs w} {A : Around} {E : Value → Shared → Prop} {cenv : Env} {s : Shared} {x : Str} {p : Pos} {v : Value} {Q : Value → Shared → Prop} (g : Gl x v) (hk : cenv.scope.kind = .function) (hx : cenv.kindOf x = some .globalImplicit) (hg : cenv.globals = mainGlobals) (hb : cenv.builtins = builtinsNs)
    (n1 : s.heap.Ns mainGlobals B.mg) (n2 : s.heap.Ns builtinsNs B.mb) (hd : (x == ("__debug__" : Str)) = false) (h : Q v s) : wpAny (MD w) A (eval (.Name x p) cenv) Q E s := by
  refine Name_function_global hk hx ?_ hd
  rcases g w B with e | ⟨e1, e2⟩
  · exact loadGlobal_global (by rw [hg]; exact n1) e h
  · exact loadGlobal_builtin (by rw [hg]; exact n1) e1 (by rw [hb]; exact n2) e2 h

noncomputable def okKind (scope : Scope) : Prop := scope.kind = .function ∧ scope.names.lookup (Str.ofString "len") = some .globalImplicit ∧ scope.names.lookup (Str.ofString "fws") = some .local ∧ scope.names.lookup (Str.ofString "part") = some .local
theorem elt_len {scope : Scope} {p1 p2 p3 p4 p5 p6 p7 : Pos} (hs : okKind scope) :
    EltOK (.BinOp (.Call (.Name (Str.ofString "len") p1) [.Name (Str.ofString "fws") p2] [] p3) .Add (.Call (.Name (Str.ofString "len") p4) [.Name (Str.ofString "part") p5] [] p6) p7) scope (fun x y v => ∃ t, v = .int ((x.length : Int) + y.length) t) := by
  intro w B A E cenv s m x y t u hA hsc hg hb n1 n2 hn h1 h2 hl
  refine hideG fun Gq hGq => ?_
  obtain ⟨k1, k2, k3, k4⟩ := hs
  refine hGq ?_
  clear hGq Gq
  have kk : ∀ z, cenv.kindOf z = scope.names.lookup z := fun z => by unfold Env.kindOf; rw [hsc]
  have kf : cenv.scope.kind = .function := by rw [hsc]; exact k1
  have one : ∀ (s' : Shared) (z : Str) (zt : Tok) (nm : Str) (q1 q2 q3 : Pos) (Q : Value → Shared → Prop), s'.heap = s.heap → m nm = some (.str z zt) → scope.names.lookup nm = some .local → (nm == ("__debug__" : Str)) = false → z.length ≤ 100000 →
      (∀ t' tk, Q (.int z.length t') { s' with toks := tk }) → wpAny (MD w) A (eval (.Call (.Name (Str.ofString "len") q1) [.Name nm q2] [] q3) cenv) Q E s' := by
    intro s' z zt nm q1 q2 q3 Q hh hm hloc hdb hz q
    refine wpAny_Call_NameR (name_gl gl_len kf (by rw [kk]; exact k2) hg hb (by rw [hh]; exact n1) (by rw [hh]; exact n2) rfl ?_)
    refine callWith_builtin rfl (wpAny_callArgs (args := [.Name nm q2]) (wpAny_items_cons (wpAny_Name (wpAny_loadName_local kf (by rw [kk]; exact hloc) (by rw [hh]; exact hn) hm ?_) hdb) rfl) rfl)
    refine wpAny_items_nil ?_
    exact PySem.P.len_str (by lia) (q _ _)
  refine wpAny_BinOp (one s x t _ _ _ _ _ rfl h1 k3 rfl (by lia) fun t1 tk1 => one _ y u _ _ _ _ _ rfl h2 k4 rfl (by lia) fun t2 tk2 => PySem.P.add_int ⟨⟨_, rfl⟩, Keeps.of fun _ _ e => e⟩)
end
section
open PySem PySem.W PyProof.Rows PySem.Calls
section
variable {k : Nat} {sc : Scope} {loc : Locs} {cs : List AC}
theorem Rep.back {w : World} {c : Cx w} {ρ s s' s3} (R : Rep c ρ loc cs s) (P : Rep c ρ loc cs s') {T : Addr} (hT : T ∈ tabs) (k : ∀ b o, b ≠ T → s.heap.get? b = some o → s'.heap.get? b = some o)
    (km : ∀ b o, b < s.heap.objs.size → s'.heap.get? b = some o → s3.heap.get? b = some o) (hg : ∀ (g : Nat) gs, s.gens[g]? = some gs → s3.gens[g]? = some gs) (hb : AllBare s3.gens) (ho : s3.os = s.os) : Post c ρ s loc cs s3 ρ := by
  refine hideG fun Gq hGq => ?_
  obtain ⟨ps, e, te⟩ := P.stat.tab T hT
  obtain ⟨ps0, e0, _⟩ := R.stat.tab T hT
  refine hGq ?_
  clear hGq Gq
  have P1 := R.tabUpd (h' := s3.heap) (tk := s3.toks) hT (fun b o hbT e => km b o (Heap.lt_size e) (k b o hbT e)) (km T _ (Heap.lt_size e0) e) te
  exact ⟨List.prefix_refl _, P1.tk, P1.rep.ext (s' := s3) (fun _ _ e => e) hg hb ho⟩
noncomputable def pl (l : List (Str × Str)) (j : Nat) : Int := ((l[j]?.map fun p => (p.1.length : Int) + p.2.length).getD 0)
theorem pre_take (l : List (Str × Str)) : ∀ j, preSum (pl l) j = accLen (l.take j)
  | 0 => by simp [preSum, accLen]
  | j + 1 => by
    rw [preSum, pre_take l j]
    unfold pl accLen
    rw [List.take_add_one]
    cases h : l[j]? with
    | none => simp
    | some p => simp
theorem pl_bound (l : List (Str × Str)) (hl : ∀ p ∈ l, p.1.length + p.2.length ≤ 1000) (j : Nat) : 0 ≤ pl l j ∧ pl l j ≤ 1000 := by
  unfold pl
  cases h : l[j]? with
  | none => simp
  | some p => have := hl p (List.mem_of_getElem? h); simp; lia
theorem pre_bound (l : List (Str × Str)) (hl : ∀ p ∈ l, p.1.length + p.2.length ≤ 1000) : ∀ j, 0 ≤ preSum (pl l) j ∧ preSum (pl l) j ≤ 1000 * j
  | 0 => by simp [preSum]
  | j + 1 => by
    have := pre_bound l hl j
    have := pl_bound l hl j
    rw [preSum]; lia
theorem cl_len160 {i : Nat} {l init} (hc : cs[i]? = some (.acc l init)) (hl : ∀ p ∈ l, p.1.length + p.2.length ≤ 1000) (hn : l.length ≤ 1000) (hi : 0 ≤ init ∧ init ≤ 1000) : Cl (k + 1) cs (.ref 160) [.obj i] (.int (init + accLen l)) cs := by
  refine cl_fnA (f := .ret (.int (init + accLen l))) (fun P => fn160 P) rfl (loc' := _) (exsA_ret ?_)
  intro w c ρ s body O e1 e2 R
  refine wpAt_of_wpAny (wpAny_Call_NameR (name_gl (B := c.B) gl_sum O.skind (by rw [O.kindOf]; rfl) O.globals O.builtins (R.stat.ns c.B.ng (by decide)) (R.stat.ns c.B.nb (by decide)) rfl ?_))
  refine callWith_builtin rfl (wpAny_callArgs ?_ rfl)
  refine wpAny_items_cons (gen_pairs O R (e1 ▸ gen160 w.params) (by rw [e2, e1]) rfl rfl hc (elt_len ⟨rfl, rfl, rfl, rfl⟩) (fun p hp => by have := hl p hp; lia) rfl (fun env => rfl) (by decide) rfl rfl rfl rfl ?_) rfl
  intro g s' St fp wr n0 P hk1 hsz1 hgs1 hos1 hn0' hfp hgf hT hst hwr WS
  refine hideG fun Gq hGq => ?_
  obtain ⟨m, hns, hm⟩ := P.rep.fr
  obtain ⟨vself, hms, a, r, ha, rfl⟩ := hm (Str.ofString "self") (.obj i) rfl
  obtain ⟨d, its, n, t, t2, n2, rfl, ho, hd, hpr⟩ := accInst P.rep hc ha
  refine hGq ?_
  clear hGq Gq
  refine wpAny_items_cons (Attribute_name (wpAny_Name (wpAny_loadName_local O.skind (by rw [O.kindOf]; rfl) hns hms ?_) rfl)) rfl
  refine sub_attr P.rep.stat.kt (accInstAt ho hd) (by kernel_rfl) (acc_ga _) (acc_gt _) (v := .int init t) (by kernel_rfl) rfl ?_
  refine wpAny_items_nil ?_
  refine call_sum_start (by lia) ?_
  have W1 : WalksS PW w c.A.in1 g fp wr (GenOnlyQ n0) l.length (fun j y => ∃ p, l[j]? = some p ∧ ∃ t, y = .int ((p.1.length : Int) + p.2.length) t) St := WS.of_in1.of_in1.of_in1
  have hst2 : St 0 { s' with toks := s'.toks + 1 } := W1.frame 0 s' s'.heap (s'.toks + 1) hst (Nat.le_succ _) fun _ _ _ e => e
  refine W1.self 0 _ _ _ hst2 ⟨g, fp, wr, _, l.length, _, St, pl l, rfl, W1, hst2, hfp, ?_, ?_, ?_⟩
  · rintro j v ⟨p, hp, t, rfl⟩
    exact ⟨t, by simp [pl, hp]⟩
  · intro j hj
    have a := pl_bound l hl j
    have b := pre_bound l hl (j + 1)
    exact ⟨⟨by lia, by lia⟩, by lia, by lia⟩
  · intro s3 t3 hm
    rw [pre_take, List.take_length]
    obtain ⟨gs, hbare, hgs⟩ := hgs1
    refine ⟨ρ, R.back P.rep (T := 155) (by decide) hk1 (fun b o hb e => hm.heap b o (fun hmem => Nat.lt_irrefl _ (Nat.lt_of_lt_of_le hb (hwr b hmem))) e) ?_ ?_ (hm.os.trans hos1), t3, rfl⟩
    · intro g' gs' e
      obtain ⟨hlt, e'⟩ := Array.getElem?_eq_some_iff.mp e
      have e1 : s'.gens[g']? = some gs' := by rw [hgs, Array.getElem?_push_lt hlt, e']
      rcases hm.gens with h | ⟨⟨_, h⟩, _⟩
      · rw [h]; exact e1
      · rw [h g' (by lia)]; exact e1
    · intro y hy
      rcases hm.gens with h | ⟨⟨hs, h⟩, hq⟩
      · rw [h] at hy; exact P.rep.stat.bare y hy
      · obtain ⟨j, hj, rfl⟩ := Array.mem_iff_getElem.mp hy
        by_cases e : j = n0
        · exact hq _ (by rw [← e]; exact Array.getElem?_eq_getElem hj)
        · have e2 := h j e
          rw [Array.getElem?_eq_getElem hj] at e2
          exact P.rep.stat.bare _ (Array.mem_of_getElem? e2.symm)
end
end
section
open PySem PySem.W PyProof.Rows PySem.Calls
section
variable {k : Nat} {sc : Scope} {loc : Locs} {cs : List AC}
theorem Cx.OK.in1 {w : World} {c : Cx w} (O : c.OK (k + 1) sc) : ({ c with A := c.A.in1 } : Cx w).OK k sc := ⟨O.hsc, O.kind, O.glob, O.blt, O.hd, O.fr, by have := O.depth; show c.A.depth + k ≤ 800; lia, by have := O.units; show c.A.units + 1 + 20 * k ≤ 9000; lia, O.out⟩
theorem Rep.in1 {w : World} {c : Cx w} {ρ s} (R : Rep c ρ loc cs s) : Rep ({ c with A := c.A.in1 } : Cx w) ρ loc cs s := ⟨R.stat, R.fr, R.frs, R.frz, R.len, R.cells, R.apart, R.fresh⟩
theorem Post.out1 {w : World} {c : Cx w} {ρ s cs' s' ρ'} (P : Post ({ c with A := c.A.in1 } : Cx w) ρ s loc cs' s' ρ') : Post c ρ s loc cs' s' ρ' := ⟨P.pre, P.tk, ⟨P.rep.stat, P.rep.fr, P.rep.frs, P.rep.frz, P.rep.len, P.rep.cells, P.rep.apart, P.rep.fresh⟩⟩
end
end
section
open PySem PySem.W PyProof.Rows PySem.Calls
noncomputable def catS : List Str → Str
  | [] => Str.empty
  | x :: r => x ++ catS r
theorem join_catS : ∀ ts : List Str, Txt.join (Str.ofString "") ts = catS ts := by
  intro ts
  show PySem.Builtin.Str.glued _ _ = _
  rw [StrLaws.glued_eq_join]
  induction ts with
  | nil => rfl
  | cons x r ih =>
    cases r with
    | nil => show x = x ++ Str.empty; rw [Str.append_empty]
    | cons y r =>
      show x ++ Str.ofString "" ++ Str.join _ (y :: r) = x ++ catS (y :: r)
      rw [ih]
      have e : x ++ Str.ofString "" = x := Str.append_empty x
      rw [e]
theorem catS_length : ∀ ts : List Str, (catS ts).length = (ts.map (·.length)).sum
  | [] => rfl
  | x :: r => by
    show (x ++ catS r).length = _
    rw [Str.length_append, catS_length r]; simp
theorem catS_two (x y : Str) : catS [x, y] = x ++ y := by show x ++ (y ++ Str.empty) = _; rw [Str.append_empty]
theorem gl_txt {x y : Str} (h : ∀ P, ∃ t, glOf P 3 x = some (.str y t)) (w : World) (B : Bs w) : ∃ t, B.mg x = some (.str y t) := let ⟨t, e⟩ := h w.params; ⟨t, by rw [ns_glOf B.K B.ng rfl]; exact e⟩
theorem gl_EMPTY (w : World) (B : Bs w) : ∃ t, B.mg (Str.ofString "EMPTYSTRING") = some (.str (Str.ofString "") t) := gl_txt (fun P => ⟨_, rfl⟩) w B

noncomputable def okKind2 (scope : Scope) : Prop := scope.kind = .function ∧ scope.names.lookup (Str.ofString "EMPTYSTRING") = some .globalImplicit ∧ scope.names.lookup (Str.ofString "fws") = some .local ∧ scope.names.lookup (Str.ofString "part") = some .local
theorem elt_join {scope : Scope} {p1 p2 p3 p4 p5 p6 : Pos} {kt : Nat} {pl : Env → Sem Bool} (hs : okKind2 scope) (he : ∀ env, eval (.Call (.Attribute (.Name (Str.ofString "EMPTYSTRING") p1) (Str.ofString "join") p2) [.Tuple [.Name (Str.ofString "fws") p4, .Name (Str.ofString "part") p5] kt p6] [] p3) env = (do
      let ov ← eval (.Name (Str.ofString "EMPTYSTRING") p1) env
      standAt p2.atName
      let (f, first) ← holding [ov] (getMethod ov (Str.ofString "join") (pl env))
      callWith p3 f first (backTo p3 (starEach [.Tuple [.Name (Str.ofString "fws") p4, .Name (Str.ofString "part") p5] kt p6] env)) (backToKw p3 (keywordEach [] env)))) :
    EltOK (.Call (.Attribute (.Name (Str.ofString "EMPTYSTRING") p1) (Str.ofString "join") p2) [.Tuple [.Name (Str.ofString "fws") p4, .Name (Str.ofString "part") p5] kt p6] [] p3) scope (fun x y v => ∃ t, v = .str (x ++ y) t) := by
  intro w B A E cenv s m x y t u hA hsc hg hb n1 n2 hn h1 h2 hl
  refine hideG fun Gq hGq => ?_
  obtain ⟨k1, k2, k3, k4⟩ := hs
  have kk : ∀ z, cenv.kindOf z = scope.names.lookup z := fun z => by unfold Env.kindOf; rw [hsc]
  have kf : cenv.scope.kind = .function := by rw [hsc]; exact k1
  obtain ⟨tE, hE⟩ := gl_EMPTY w B
  refine hGq ?_
  clear hGq Gq
  refine methodCall_KW (pl := pl cenv) (Name_function_global kf (by rw [kk]; exact k2) (loadGlobal_global (by rw [hg]; exact n1) hE ?_) rfl) (he _)
  refine GM.join ?_
  refine callWith_builtin rfl (wpAny_callArgs (wpAny_items_cons (wpAny_Tuple (wpAny_items_cons (wpAny_Name (wpAny_loadName_local kf (by rw [kk]; exact k3) hn h1 (wpAny_items_cons (wpAny_Name (wpAny_loadName_local kf (by rw [kk]; exact k4) hn h2 (wpAny_items_nil ?_)) rfl) rfl)) rfl) rfl)) rfl) rfl)
  refine ⟨by simp [sizeLine_eq], wpAny_items_nil ?_⟩
  refine join_tupleW (ys := [x, y]) ⟨_, Heap.get?_push_size _ rfl, rfl, _, rfl⟩ (.cons _ _ (.cons _ _ .nil)) (by decide) (by simp; lia) fun t' k => ?_
  rw [join_catS, catS_two]
  exact ⟨⟨t', rfl⟩, Keeps.of fun b o e => Heap.get?_push_of_some _ e⟩

section
variable {k : Nat} {sc : Scope} {loc : Locs} {cs : List AC}
theorem after_gen {w : World} {c : Cx w} {ρ s s' s3} {T : Addr} {n0 : Nat} {wr : List Addr} (R : Rep c ρ loc cs s) (P : Post c ρ s loc cs s' ρ) (hT : T ∈ tabs) (hk1 : ∀ b o, b ≠ T → s.heap.get? b = some o → s'.heap.get? b = some o)
    (hgs1 : ∃ gs, gs.bare = true ∧ s'.gens = s.gens.push gs) (hos1 : s'.os = s.os) (hn0 : n0 = s.gens.size) (hwr : ∀ b ∈ wr, s.heap.objs.size ≤ b) {s2 : Shared} (h2 : s2.heap = s'.heap) (g2 : s2.gens = s'.gens) (o2 : s2.os = s'.os) (hm : Moved wr (GenOnlyQ n0) s2 s3) : Post c ρ s loc cs s3 ρ := by
  obtain ⟨gs, hbare, hgs⟩ := hgs1
  refine R.back P.rep hT hk1 (fun b o hb e => hm.heap b o (fun hmem => Nat.lt_irrefl _ (Nat.lt_of_lt_of_le hb (hwr b hmem))) (by rw [h2]; exact e)) ?_ ?_ (hm.os.trans (o2.trans hos1))
  · intro g' gs' e
    obtain ⟨hlt, e'⟩ := Array.getElem?_eq_some_iff.mp e
    have e1 : s'.gens[g']? = some gs' := by rw [hgs, Array.getElem?_push_lt hlt, e']
    rw [← g2] at e1
    rcases hm.gens with h | ⟨⟨_, h⟩, _⟩
    · rw [h]; exact e1
    · rw [h g' (by lia)]; exact e1
  · intro y hy
    have bare2 : AllBare s2.gens := by rw [g2]; exact P.rep.stat.bare
    rcases hm.gens with h | ⟨⟨hs, h⟩, hq⟩
    · rw [h] at hy; exact bare2 y hy
    · obtain ⟨j, hj, rfl⟩ := Array.mem_iff_getElem.mp hy
      by_cases e : j = n0
      · exact hq _ (by rw [← e]; exact Array.getElem?_eq_getElem hj)
      · have e2 := h j e
        rw [Array.getElem?_eq_getElem hj] at e2
        exact bare2 _ (Array.mem_of_getElem? e2.symm)

noncomputable abbrev accPart (p : Str × Str) : Str := p.1 ++ p.2
noncomputable def accStr (l : List (Str × Str)) : Str := catS (l.map accPart)
theorem items_map {l : List (Str × Str)} {l' : List (Str × Tok)} (h : ItemsOf (fun j y => ∃ p, l[j]? = some p ∧ ∃ t, y = Value.str (accPart p) t) (strValues l').toArray l.length) : l'.map (·.1) = l.map accPart := by
  obtain ⟨hsz, hv⟩ := h
  have hlen : l'.length = l.length := by simpa [strValues] using hsz
  refine List.ext_getElem? fun j => ?_
  rw [List.getElem?_map, List.getElem?_map]
  by_cases hj : j < l'.length
  · obtain ⟨p, hp, t, e⟩ := hv j (.str (l'[j]).1 (l'[j]).2) (by simp [strValues, hj])
    rw [List.getElem?_eq_getElem hj, hp]
    simp only [Value.str.injEq] at e
    simp [e.1]
  · rw [List.getElem?_eq_none (by lia), List.getElem?_eq_none (by lia)]
    rfl
theorem acc_sum (l : List (Str × Str)) (hl : ∀ p ∈ l, p.1.length + p.2.length ≤ 1000) : ((l.map accPart).map (·.length)).sum ≤ 1000 * l.length := by
  induction l with
  | nil => simp
  | cons p r ih =>
    have h1 := ih fun q hq => hl q (List.mem_cons_of_mem _ hq)
    have h2 := hl p (.head _)
    simp only [List.map_cons, List.sum_cons, List.length_cons, Str.length_append]
    lia
theorem cl_str167 {i : Nat} {l init} (hc : cs[i]? = some (.acc l init)) (hl : ∀ p ∈ l, p.1.length + p.2.length ≤ 1000) (hn : l.length ≤ 1000) : Cl (k + 1) cs (.ref 167) [.obj i] (.str (accStr l)) cs := by
  refine cl_fnA (f := .ret (.str (accStr l))) (fun P => fn167 P) rfl (loc' := _) (exsA_ret ?_)
  intro w c ρ s body O e1 e2 R
  obtain ⟨tE, hE⟩ := gl_EMPTY w c.B
  refine wpAt_of_wpAny (methodCall_KW (Name_function_global O.skind (by rw [O.kindOf]; rfl) (loadGlobal_global (by rw [O.globals]; exact R.stat.ns c.B.ng (by decide)) hE ?_) rfl) rfl)
  refine GM.join ?_
  refine callWith_builtin rfl (wpAny_callArgs ?_ rfl)
  refine wpAny_items_cons (gen_pairs O R (e1 ▸ gen167 w.params) (by rw [e2, e1]) rfl rfl hc (elt_join ⟨rfl, rfl, rfl, rfl⟩ (fun _ => rfl)) (fun p hp => by have := hl p hp; lia) rfl (fun env => rfl) (by decide) rfl rfl rfl rfl ?_) rfl
  intro g s' St fp wr n0 P hk1 hsz1 hgs1 hos1 hn0' hfp hgf hT hst hwr WS
  refine wpAny_items_nil ?_
  refine SC.joinGen WS.of_in1.of_in1 hT hst hfp hgf (fun i v h => by obtain ⟨p, _, t, rfl⟩ := h; exact ⟨_, _, rfl⟩) (fun s3 l' hm hI => ?_) (by rw [sizeLine_eq]; lia)
  have e := items_map hI
  rw [e, join_catS]
  refine ⟨joinOk_of_weight ?_ (by decide), fun t' kk => ?_⟩
  · have := acc_sum l hl
    simp only [List.length_map]
    lia
  · have Pq := after_gen R P (T := 162) (by decide) hk1 hgs1 hos1 hn0' hwr (s2 := s') (s3 := s3) rfl rfl rfl hm
    exact ⟨ρ, Pq.trans (.tok Pq.rep kk), t', rfl⟩
end
end
section
open PySem PySem.W PyProof.Rows PySem.Calls
section
variable {k : Nat} {sc : Scope} {loc : Locs} {cs : List AC}
theorem len_body {w : World} {c : Cx w} {ρ s} {i a : Nat} {r : List Addr} {l init} (O : c.OK (k + 2) sc) (R : Rep c ρ loc cs s) (ha : ρ[i]? = some (a :: r)) (hc : cs[i]? = some (.acc l init)) (hl : ∀ p ∈ l, p.1.length + p.2.length ≤ 1000) (hn : l.length ≤ 1000) (hi : 0 ≤ init ∧ init ≤ 1000) :
    wpAny (MD w) c.A.in1 (Builtin.«len» ⟨[.ref a], []⟩) (fun fin s' => ∃ r, fin = .done (.ret r) ∧ ∃ ρ', Post c ρ s loc cs s' ρ' ∧ VRep ρ' s'.heap (.int (init + accLen l)) r) (fun _ _ => False) s := by
  refine hideG fun Gq hGq => ?_
  obtain ⟨d, its, n, t, t2, n2, rfl, ho, hd, hpr⟩ := accInst R hc ha
  refine hGq ?_
  clear hGq Gq
  have hb := pre_bound l hl l.length
  rw [pre_take, List.take_length] at hb
  unfold Builtin.«len»
  refine wpAny_bind (m := oneArg "len" _) (wpAny_pure ?_)
  refine wpAny_bind (m := callSpecial? (.ref a) (Str.ofString "__len__")) (special_fn (f := 160) R.stat.kt (accInstAt ho hd) (by kernel_rfl) (by kernel_rfl) ?_)
  refine wpAny_mono (cl_len160 (k := k) hc hl hn hi w ({ c with A := c.A.in1 } : Cx w) ρ loc s _ sc O.in1 R.in1 (.cons ⟨a, _, ha, rfl⟩ .nil)) (fun v' s' hq => ?_) fun _ _ x => x
  refine hideG fun Gq hGq => ?_
  obtain ⟨ρ', P, tv, rfl⟩ := hq
  refine hGq ?_
  clear hGq Gq
  have P := P.out1
  refine wpAny_bind (wpAny_holding (wpAny_pure ?_))
  refine wpAny_bind (wpAny_letGo ?_)
  show wpAny _ _ (if (init + accLen l) < 0 then _ else _) _ _ _
  rw [if_neg (by lia)]
  show wpAny _ _ (if (init + accLen l) ≥ 2 ^ 63 then _ else _) _ _ _
  rw [if_neg (by lia)]
  exact wpAny_bind (wpAny_mkInt (wpAny_pure ⟨_, rfl, ρ', P.trans (.tok P.rep _), _, rfl⟩))
theorem cl_lenAcc {i : Nat} {l init} (hc : cs[i]? = some (.acc l init)) (hl : ∀ p ∈ l, p.1.length + p.2.length ≤ 1000) (hn : l.length ≤ 1000) (hi : 0 ≤ init ∧ init ≤ 1000) : Cl (k + 2) cs (.builtin "len") [.obj i] (.int (init + accLen l)) cs := by
  intro w c ρ loc s vs sc O R V
  refine hideG fun Gq hGq => ?_
  obtain ⟨_, rfl, a, r, ha, rfl⟩ := V.one
  refine hGq ?_
  clear hGq Gq
  exact Calls.call_function_entry kind_len plain_len entry_len (args_len1 _) (len_body O R ha hc hl hn hi)

theorem cl_strAcc {i : Nat} {l init} (hc : cs[i]? = some (.acc l init)) (hl : ∀ p ∈ l, p.1.length + p.2.length ≤ 1000) (hn : l.length ≤ 1000) : Cl (k + 3) cs (.type "str") [.obj i] (.str (accStr l)) cs := by
  intro w c ρ loc s vs sc O R V
  refine hideG fun Gq hGq => ?_
  obtain ⟨_, rfl, a, r, ha, rfl⟩ := V.one
  obtain ⟨d, its, n, t, t2, n2, rfl, ho, hd, hpr⟩ := accInst R hc ha
  refine hGq ?_
  clear hGq Gq
  refine kso_call (f := 167) (by have := O.units; show c.A.units + 1 + 1 < cLine; have e : cLine = 9900 := rfl; lia) R.stat.kt (accInstAt ho hd) (by kernel_rfl) (by kernel_rfl) ?_
  refine wpAny_mono (cl_str167 (k := k) hc hl hn w ({ c with A := c.A.in1.in1 } : Cx w) ρ loc s _ sc (Cx.OK.in1 (c := { c with A := c.A.in1 }) O.in1) R.in1.in1 V) (fun v' s' hq => ?_) fun _ _ x => x
  refine hideG fun Gq hGq => ?_
  obtain ⟨ρ', P, tv, rfl⟩ := hq
  refine hGq ?_
  clear hGq Gq
  have P := P.out1 (c := { c with A := c.A.in1 })
  exact ⟨ρ', P.out1, tv, rfl⟩

noncomputable def TruC (k : Nat) (cs : List AC) (a : AV) (b : Bool) : Prop := ∀ (w : World) (c : Cx w) ρ loc s sc va (Q : Bool → Shared → Prop), c.OK k sc → Rep c ρ loc cs s → VRep ρ s.heap a va → (∀ s' ρ', Post c ρ s loc cs s' ρ' → Q b s') → wpAny (MD w) c.A (truthy va) Q (fun _ _ => False) s
theorem truC_acc {i : Nat} {l init} (hc : cs[i]? = some (.acc l init)) (hl : ∀ p ∈ l, p.1.length + p.2.length ≤ 1000) (hn : l.length ≤ 1000) (hi : 0 ≤ init ∧ init ≤ 1000) : TruC (k + 2) cs (.obj i) (init + accLen l != 0) := by
  intro w c ρ loc s sc va Q O R V q
  refine hideG fun Gq hGq => ?_
  obtain ⟨a, r, ha, rfl⟩ := V
  obtain ⟨d, its, n, t, t2, n2, rfl, ho, hd, hpr⟩ := accInst R hc ha
  refine hGq ?_
  clear hGq Gq
  unfold truthy
  have hb := (accInstAt (P := w.params) ho hd).type (M := MD w)
  refine wpAny_bind (m := callSpecial? (.ref a) (Str.ofString "__bool__")) (wpAny_bind (wpAny_bind (hb.here ((looks_findIn (r := none) R.stat.kt (by kernel_rfl)).here (wpAny_pure ?_)))))
  refine wpAny_bind (wpAny_bind (hb.here ((looks_findIn (r := some (.ref 160)) R.stat.kt (by kernel_rfl)).here ?_)))
  refine wpAny_bind ?_
  refine wpAny_runValue (codeAny_builtin entry_len ?_)
  rw [Around.under_plainId plain_len _]
  refine wpAny_mono (len_body (k := k) O R ha hc hl hn hi) (fun fin s' h' => ?_) fun _ _ x => x.elim
  refine hideG fun Gq hGq => ?_
  obtain ⟨r, rfl, ρ', P, tv, rfl⟩ := h'
  refine hGq ?_
  clear hGq Gq
  exact wpAny_pure (q _ _ P)
theorem tst_truC {e : Expr} {a b cs1} (h : Ev k sc loc cs e a cs1) (ht : TruC k cs1 a b) (he : ∀ env whole, isTrue e env whole = (do let v ← whole; standAt e.pos; holding [v] (truthy v))) : Tst k sc loc cs e b cs1 := by
  intro w c ρ s O R
  refine wpAny_isTrue_value (wpAny_mono (h w c ρ s O R) (fun va s1 hq => ?_) fun _ _ x => x.elim) (he _ _)
  obtain ⟨ρ1, P1, V1⟩ := hq
  exact ht w c ρ1 loc s1 sc va _ O P1.rep V1 fun s' ρ' P => ⟨rfl, ρ', P1.trans P⟩
theorem ev_not {e : Expr} {p : Pos} {a b cs1} (h : Ev k sc loc cs e a cs1) (ht : TruC k cs1 a b) : Ev k sc loc cs (.UnaryOp .Not e p) (.bool (!b)) cs1 := by
  intro w c ρ s O R
  refine wpAny_UnaryOp (wpAny_mono (h w c ρ s O R) (fun va s1 h => ?_) fun _ _ x => x.elim)
  obtain ⟨ρ1, P1, V1⟩ := h
  exact not_of (ht w c ρ1 loc s1 sc va _ O P1.rep V1 fun s' ρ' P => ⟨ρ', P1.trans P, rfl⟩)
end
end
section
open PySem PySem.W PyProof.Rows PySem.Calls
section
variable {k : Nat} {sc : Scope} {loc : Locs} {cs : List AC}

theorem ev_globStr {x y : Str} {p : Pos} (hx : sc.names.lookup x = some .globalImplicit) (g : ∀ (w : World) (B : Bs w), ∃ t, B.mg x = some (.str y t)) (hd : (x == ("__debug__" : Str)) = false) : Ev k sc loc cs (.Name x p) (.str y) cs := by
  intro w c ρ s O R
  refine Name_function_global O.skind (by rw [O.kindOf]; exact hx) ?_ hd
  have n1 : s.heap.Ns c.env.globals c.B.mg := by rw [O.globals]; exact R.stat.ns c.B.ng (by decide)
  obtain ⟨t, e⟩ := g w c.B
  exact loadGlobal_global n1 e ⟨ρ, .refl R, _, rfl⟩

noncomputable def MethS (name : Str) (id : String) : Prop := ∀ (M : Model) (A : Around) (E : Value → Shared → Prop) (s : Shared) (x : Str) (t : Tok) (pl : Sem Bool) (Q : Value × List Value → Shared → Prop), Q (.builtin id, [.str x t]) s → wpAny M A (getMethod (.str x t) name pl) Q E s
theorem ms_join : MethS "join" "str.join" := fun M A E s x t pl Q h => GM.join h
theorem ms_split : MethS "split" "str.split" := fun M A E s x t pl Q h => GM.split h
theorem ms_isspace : MethS "isspace" "str.isspace" := fun M A E s x t pl Q h => GM.isspace h
theorem ev_methodS {o : Expr} {name : Str} {apos pos : Pos} {args : List Expr} {x : Str} {id : String} {avs : List AV} {v cs1 cs2 cs3} {pl : Env → Sem Bool} (hm : MethS name id) (h : Ev k sc loc cs o (.str x) cs1) (ha : EvL k sc loc cs1 args avs cs2)
    (hc : Cl k cs2 (.builtin id) (.str x :: avs) v cs3) (hargs : ∀ env, starEach args env = args.map fun e => (false, eval e env))
    (he : ∀ env, eval (.Call (.Attribute o name apos) args [] pos) env = (do
      let ov ← eval o env
      standAt apos.atName
      let (f, first) ← holding [ov] (getMethod ov name (pl env))
      callWith pos f first (backTo pos (starEach args env)) (backToKw pos (keywordEach [] env)))) : Ev k sc loc cs (.Call (.Attribute o name apos) args [] pos) v cs3 := by
  intro w c ρ s O R
  refine methodCall_KW (pl := pl c.env) (wpAny_mono (h w c ρ s O R) (fun ov s1 hq => ?_) fun _ _ x => x.elim) (he _)
  refine hideG fun Gq hGq => ?_
  obtain ⟨ρ1, P1, t, rfl⟩ := hq
  refine hGq ?_
  clear hGq Gq
  refine hm _ c.A _ _ _ _ _ _ ?_
  refine callWith_builtin (backTo_plain _ _ _ (hargs _)) (wpAny_callArgs (wpAny_mono (ha w c ρ1 s1 pos O P1.rep) (fun vs s2 hq => ?_) fun _ _ x => x) (hargs _))
  obtain ⟨ρ2, P2, V2⟩ := hq
  refine wpAny_mono (hc w c ρ2 loc s2 _ sc O P2.rep (.cons ⟨t, rfl⟩ V2)) (fun v' s3 h => ?_) fun _ _ x => x
  obtain ⟨ρ3, P3, V3⟩ := h
  exact ⟨ρ3, (P1.trans P2).trans P3, V3⟩

theorem pcl_isspace (x : Str) : PureCl (.builtin "str.isspace") [.str x] (.bool (Txt.isspace x)) := fun w A ρ s vs Q E V q => by
  refine hideG fun Gq hGq => ?_
  obtain ⟨_, rfl, t, rfl⟩ := V.one
  refine hGq ?_
  clear hGq Gq
  exact SC.isspace (q _ s.toks rfl)

theorem ostrs_of_strs {vs : List Value} {l : List Str} (x : StrsAre vs l) : OStrsAre vs (l.map some) := by
  induction x with
  | nil => exact .nil
  | cons n t _ ih => exact .some _ _ ih
theorem strs_of_ostrs : ∀ {vs : List Value} {l : List Str}, OStrsAre vs (l.map some) → StrsAre vs l
  | _, [], .nil => .nil
  | _, x :: l, .some _ t h => .cons _ t (strs_of_ostrs h)
theorem cl_joinSL {x : Str} {i : Nat} {l : List Str} (hc : cs[i]? = some (.strL (l.map some))) (hx : x.length ≤ 16) (hw : (l.map (·.length)).sum + l.length ≤ 100000) : Cl k cs (.builtin "str.join") [.str x, .obj i] (.str (Txt.join x l)) cs := by
  intro w c ρ loc s vs sc O R V
  refine hideG fun Gq hGq => ?_
  obtain ⟨_, _, rfl, ⟨t, rfl⟩, a, r, ha, rfl⟩ := V.two
  obtain ⟨vs, y, z, _⟩ := R.strL hc ha
  refine hGq ?_
  clear hGq Gq
  exact join_listW y.isList (by simpa using strs_of_ostrs z) hx (by lia) fun t' kk => ⟨ρ, .tok R kk, t', rfl⟩
theorem sv_strs : ∀ l : List (Str × Tok), OStrsAre (strValues l) ((l.map (·.1)).map some)
  | [] => .nil
  | (x, t) :: r => .some _ _ (sv_strs r)
theorem split_call {prog : Program} {w : World} {A : Around} {E : Value → Shared → Prop} {s : Shared} {x y : Str} {t u : Tok} {Q : Value → Shared → Prop} (hy : (y.length == 0) = false) (hsz : x.length ≤ 100000)
    (h : ∀ l k, l.map (·.1) = Txt.split x y → Q (.ref s.heap.objs.size) { s with heap := s.heap.push { cls := .type "list", data := .seq (strValues l).toArray }, toks := k }) :
    wpAny (model prog w) A (call (.builtin "str.split") [.str x t, .str y u]) Q E s := by
  have hn : (PySem.Builtin.Str.partsBetween x (PySem.Builtin.Str.occurrences x y 0 x.length (x.length + 1)) y.length).length ≤ sizeLine := by
    have e1 := StrLaws.occ_length_le x y 0 x.length (x.length + 1)
    rw [length_partsBetween, sizeLine_eq]; lia
  cases h1 : (decide (x.length < y.length) || decide (PySem.Builtin.Str.strKind x < PySem.Builtin.Str.strKind y))
  · cases hf : (PySem.Builtin.Str.occurrences x y 0 x.length (x.length + 1)).isEmpty
    · refine call_meets F.slot_str_split (typeIs_str _ _ _) F.entry_str_split (F.args_str_split_2 _ _) (meets_str_split_sep x y t u h1 hy hf (by rw [sizeLine_eq]; lia) hn) ?_
      rw [strsFrom_eq]
      exact h (numbered s.toks _) _ ((numbered_texts _ _).trans ((if_neg (ne_true_of_eq_false h1)).trans (if_neg (ne_true_of_eq_false hf))).symm)
    · exact call_meets F.slot_str_split (typeIs_str _ _ _) F.entry_str_split (F.args_str_split_2 _ _) (meets_str_split_not_found x y t u h1 hy hf)
        (h [(x, t)] s.toks ((if_neg (ne_true_of_eq_false h1)).trans (if_pos hf)).symm)
  · exact call_meets F.slot_str_split (typeIs_str _ _ _) F.entry_str_split (F.args_str_split_2 _ _) (meets_str_split_cannot_occur x y t u h1)
      (h [(x, t)] s.toks (if_pos h1).symm)
theorem cl_split {x y : Str} (hy : (y.length == 0) = false) (hsz : x.length ≤ 100000) : Cl k cs (.builtin "str.split") [.str x, .str y] (.obj cs.length) (cs ++ [.strL ((Txt.split x y).map some)]) := by
  intro w c ρ loc s vs sc O R V
  refine hideG fun Gq hGq => ?_
  obtain ⟨_, _, rfl, ⟨t, rfl⟩, u, rfl⟩ := V.two
  refine hGq ?_
  clear hGq Gq
  refine split_call hy hsz fun l kk e => ?_
  exact ⟨_, Post.newObj R rfl ⟨_, strValues l, rfl, ⟨_, Heap.get?_push_size _ rfl⟩, e ▸ sv_strs l⟩, vrep_new R.len⟩
end
end
local macro_rules | `(tactic| kl_some) => `(tactic| first
  | ((with_reducible apply ev_methodS); (· with_reducible first | exact ms_isspace | exact ms_join | exact ms_split); (· kl_some); (· kl_some); (· ki_room); (· exact fun _ => rfl); (· exact fun _ => rfl))
  | ((with_reducible apply ev_globStr); (· exact rfl); (· exact gl_EMPTY); (· exact rfl))
  | ((with_reducible apply tst_cmpc); (· kl_some); (· kl_some); (· k_units); (· exact rfl))
  | ((with_reducible apply tst_not); (· kl_some))
  | ((with_reducible apply ev_not); (· kl_some); (· k_units))
  | ((with_reducible apply tst_val); (· kl_some); (· k_units); (· exact fun _ _ => rfl))
  | ((with_reducible apply tst_truC); (· kl_some); (· k_units); (· exact fun _ _ => rfl))
  | fail "none")
local macro_rules | `(tactic| k_units) => `(tactic| with_reducible first
  | exact ms_join
  | exact ms_split
  | exact ms_isspace
  | (apply truC_acc <;> assumption)
  | fail "none")
local macro_rules | `(tactic| ki_room) => `(tactic| with_reducible first
  | exact (pcl_isspace _).cl
  | (apply cl_lenAcc <;> assumption)
  | (apply cl_strAcc <;> assumption)
  | (apply cl_push <;> assumption)
  | (apply cl_joinSL <;> assumption)
  | fail "none")
section
open PySem PySem.W PyProof.Rows PySem.Calls
section
variable {k : Nat} {cs : List AC}
theorem cl_onlyws {i : Nat} {l init} (hc : cs[i]? = some (.acc l init)) (hl : ∀ p ∈ l, p.1.length + p.2.length ≤ 1000) (hn : l.length ≤ 1000) (hi : 0 ≤ init ∧ init ≤ 1000) (hz : init + accLen l ≠ 0) (hs : init = 0 → Txt.isspace (accStr l) = false) :
    Cl (k + 4) cs (.ref 182) [.obj i] (.bool false) cs := by
  apply cl_bf (.ret (.bool false)) (fun P => fn182 P) rfl
  apply bf_ret
  refine ev_andB (b1 := init == 0) (by kl_some) (fun h0 => ?_) (fun h0 => ⟨rfl, rfl⟩)
  have e0 : init = 0 := by simpa using h0
  refine ev_orB (b1 := !(init + accLen l != 0)) (by kl_some) (fun h1 => ?_) (fun h1 => ?_)
  · rw [← hs e0]
    kl_some
  · simp only [Bool.not_eq_true', bne_eq_false_iff_eq] at h1
    exact absurd h1 hz
end
end
section
open PySem PySem.W PyProof.Rows PySem.Calls
open PySem.Builtin PySem.Builtin.ObjectAttr
theorem made193 (P : Params) : ∃ oc od cd sl, (Kt P).lookup 193 = some ⟨oc, od, .cls cd, sl⟩ ∧ cd.abstract = false ∧ cd.hasDel = false ∧ cd.mro = [.ref 193, .type "list", .type "object"] ∧ (sl.toList[4]?).join = some (.builtin "list.__new__") ∧ cd.hasDict = true := ⟨_, _, _, _, rfl, rfl, rfl, rfl, rfl, rfl⟩
noncomputable abbrev accObj (d : Addr) : Obj := ⟨.ref 193, some d, .seq #[], #[]⟩
section
variable {prog : Program} {w : World} {A : Around} {R : Result → Shared → Prop} {h : Heap} {g : Array GenState} {d : Drawn} {t : Nat} {os : OsState}

structure MkL (M : Model) (h : Heap) : Prop where
  obj : ∃ oc od cd sl, h.get? 193 = some ⟨oc, od, .cls cd, sl⟩ ∧ cd.hasDel = false
  made : Looks M h (Bind.madeBy (.ref 193)) (some "list.__new__")
  base : Looks M h (Bind.staticBase (.ref 193)) (.ref 193)
  self : Looks M h (isSubtype (.ref 193) (.ref 193)) true
  top : Looks M h (isSubtype (.ref 193) (.type "list")) true
  call : Looks M h (specialOf (.ref 193) "__call__") (some (.builtin "type.__call__"))
  typ : Looks M h (isInstance (.ref 193) (.type "type")) true
  ist : Looks M h (isType (.ref 193)) true
  mro : Looks M h (mroOf (.ref 193)) [.ref 193, .type "list", .type "object"]
theorem mkL {P : Params} {M : Model} (X : (Kt P).In h) : MkL M h := by
  refine hideG fun Gq hGq => ?_
  obtain ⟨oc, od, cd, sl, ho, e1, e2, e3, e4, e5⟩ := made193 P
  refine hGq ?_
  clear hGq Gq
  have hc : clsIn (Kt P) 193 = some cd := by unfold clsIn; rw [ho]
  have hm : Looks M h (mroOf (.ref 193)) [.ref 193, .type "list", .type "object"] := e3 ▸ (looks_clsIn X hc).andThen .now
  have made : Looks M h (Bind.madeBy (.ref 193)) (some "list.__new__") := by
    intro A Q E s k q
    unfold Bind.madeBy
    refine wpAny_bind (hm A _ E s k ?_)
    rw [List.forIn_cons]
    refine wpAny_bind (wpAny_bind (wpAny_bind (wpAny_bind (wpAny_loadPart (k _ _ (X _ _ ho)) (wpAny_pure ?_)))))
    dsimp only
    rw [← Array.getElem?_toList, e4]
    exact wpAny_pure (wpAny_pure (wpAny_pure q))
  refine ⟨⟨oc, od, cd, sl, X _ _ ho, e2⟩, made, ?_, looks_mroIn X (by kernel_rfl), looks_mroIn X (by kernel_rfl), looks_specialIn X (by kernel_rfl), looks_instIn X (by kernel_rfl), ?_, hm⟩
  · intro A Q E s k q
    unfold Bind.staticBase
    refine wpAny_bind (hm A _ E s k ?_)
    rw [List.forIn_cons]
    exact wpAny_bind (wpAny_bind (wpAny_bind (made A _ E s k (wpAny_pure (wpAny_pure (wpAny_pure q))))))
  · intro A Q E s k q
    exact ks_wpAny_isType_cls (k _ _ (X _ _ ho)) rfl q
set_option maxHeartbeats 2000000 in
theorem new_L {rest : List Value} (Y : MkL (model prog w) h)
    (hq : R (.ok (.ret (.ref (h.objs.size + 1)))) ⟨(h.push emptyDict).push (accObj h.objs.size), g, d, t, os⟩) :
    codeAny (model prog w) A (.call (.builtin "list.__new__") ⟨.ref 193 :: rest, []⟩) R ⟨h, g, d, t, os⟩ := by
  refine hideG fun Gq hGq => ?_
  obtain ⟨⟨oc, od, cd, sl, hC, e2⟩, made, base, self, top, call, typ, ist, mro⟩ := Y
  refine hGq ?_
  clear hGq Gq
  refine codeAny_call_builtin_code (plainId_quiet F.plain_list_new _) ?_
  have hk : builtinKind "list.__new__" = some .builtinFn := by decide +kernel
  have hs : splitId "list.__new__" = some ("list", "__new__") := by decide +kernel
  simp only [checkBuiltinCall, hk, hs]
  repeat (first | simp only [bne_self_eq_false, Bool.false_eq_true, if_false, Bool.not_true, beq_self_eq_true, if_true] | lk)
  refine codeAny_builtin_stack F.entry_list_new rfl fun p st => ?_
  have hown := owner_list_new
  simp only [hown]
  repeat (first | simp only [bne_self_eq_false, Bool.false_eq_true, if_false, Bool.not_true, beq_self_eq_true, if_true] | lk)
  refine wpAny_load (Heap.get?_push_of_some _ (Heap.get?_push_of_some _ hC)) (wpAny_pure ?_)
  rw [e2]
  refine wpAny_pure (wpAny_pure ?_)
  show R _ _
  rw [Heap.size_push]
  exact hq
set_option maxHeartbeats 2000000 in
theorem make_L {P : Params} {rest : List Value} {init : Value} (X : (Kt P).In h) (hi : Looks (model prog w) h (typeLookup (.ref 193) "__init__") (some init))
    (hb : ∀ self, Looks (model prog w) h (bindSpecial init self) (init, [self])) 
    (hq : codeAny (model prog w) (A.under (.builtin "type.__call__" ⟨.ref 193 :: rest, []⟩)) (.call init ⟨.ref (h.objs.size + 1) :: rest, []⟩) (InitBack (h.objs.size + 1) R) ⟨(h.push emptyDict).push (accObj h.objs.size), g, d, t, os⟩) :
    codeAny (model prog w) A (.call (.ref 193) ⟨rest, []⟩) R ⟨h, g, d, t, os⟩ := by
  have Y := mkL (M := model prog w) X
  have Y' := Y
  refine hideG fun Gq hGq => ?_
  obtain ⟨⟨oc, od, cd, sl, hC, e2⟩, made, base, self, top, call, typ, ist, mro⟩ := Y
  refine hGq ?_
  clear hGq Gq
  refine codeAny_of_tree ?_
  show wpAny _ _ (callAny (.ref 193) _) _ _ _
  refine nd_load hC ?_
  show wpAny _ _ (callAny.viaDunder (.ref 193) _) _ _ _
  unfold callAny.viaDunder
  refine wpAny_bind (call.at ?_)
  dsimp only
  rw [tc_bind]
  refine wpAny_bind (wpAny_pure (wpAny_bind (wpAny_pure ?_)))
  refine wpAny_pure (a := Fin.again (.call (.builtin "type.__call__") ⟨.ref 193 :: rest, []⟩)) (And.intro rfl ?_)
  refine codeAny_call_builtin_at (Code.quiet_builtin _ (by decide +kernel)) entry_typeCall (check_slot tc_kind tc_split typ (tc_args _ _ _) ?_)
  unfold Builtin.«type.__call__»
  repeat (first | simp only [List.isEmpty_cons, Bool.false_eq_true, if_false] | with_reducible refine wpAny_call ?_ | lk)
  refine new_L Y' ?_
  have k : ∀ b o, h.get? b = some o → ((h.push emptyDict).push (accObj h.objs.size)).get? b = some o := fun b o e => Heap.get?_push_of_some _ (Heap.get?_push_of_some _ e)
  have hx : ((h.push emptyDict).push (accObj h.objs.size)).get? (h.objs.size + 1) = some (accObj h.objs.size) := by heap_get
  have t1 : Looks (model prog w) ((h.push emptyDict).push (accObj h.objs.size)) (typeOf (.ref (h.objs.size + 1))) (.ref 193) := (Looks.ld hx).andThen .now
  have s1 := self.keeps k
  have i1 := hi.keeps k
  have b1 := (hb (.ref (h.objs.size + 1))).keeps k
  unfold isInstance callSpecial? specialOf
  repeat (first | with_reducible refine wpAny_call ?_ | lk)
  refine codeAny_mono hq fun r s' z => ?_
  rcases r with e | (v | _ | _ | _) <;> first | exact z | exact z.elim | skip
  obtain ⟨rfl, z⟩ := z
  exact wpAny_pure (wpAny_pure z)
end
end
section
open PySem PySem.W PyProof.Rows PySem.Calls
open PySem.Builtin PySem.Builtin.ObjectAttr
noncomputable abbrev EntOK (P : Params) (e : DictEntry) (p : Str × Value) : Prop := ∃ t, e = ⟨PyData.keyHash P p.1, .str p.1 t, p.2⟩
theorem ent_key {P : Params} {es : List DictEntry} {kv : List (Str × Value)} (h : All2 (EntOK P) es kv) {name : Str} (hn : ∀ p ∈ kv, p.1 ≠ name) : ∀ e ∈ es, e.key.isStr name = false := by
  induction h with
  | nil => intro e he; cases he
  | @cons e p l m hep _ ih =>
    intro e' he
    rcases List.mem_cons.mp he with rfl | he
    · obtain ⟨t, rfl⟩ := hep
      exact beq_eq_false_iff_ne.mpr (hn p (.head _))
    · exact ih (fun q hq => hn q (List.mem_cons_of_mem _ hq)) e' he
theorem ent_ref {P : Params} {es : List DictEntry} {kv : List (Str × Value)} (h : All2 (EntOK P) es kv) : ∀ e ∈ es, e.refKey = false := by
  induction h with
  | nil => intro e he; cases he
  | @cons e p l m hep _ ih =>
    intro e' he
    rcases List.mem_cons.mp he with rfl | he
    · obtain ⟨t, rfl⟩ := hep; rfl
    · exact ih e' he
theorem put_new {P : Params} {es : List DictEntry} {kv : List (Str × Value)} {name : Str} {v : Value} {tk : Tok} {n : Nat} (h : All2 (EntOK P) es kv) (hn : ∀ p ∈ kv, p.1 ≠ name) :
    Obj.putName name (PyData.keyHash P name) (.str name tk) v { cls := .type "dict", data := .dict es.toArray n } = { cls := .type "dict", data := .dict (es ++ [(⟨PyData.keyHash P name, .str name tk, v⟩ : DictEntry)]).toArray (n + 1) } := by
  rw [Obj.putName_eq]
  have e : es.toArray.findIdx? (·.key.isStr name) = none := by
    rw [Array.findIdx?_eq_none_iff]
    intro x hx
    exact ent_key h hn x (by simpa using hx)
  simp only [Obj.putNameByArray, e]
  simp
theorem All2.append {α β : Type} {R : α → β → Prop} {a b : List α} {c d : List β} (h : All2 R a c) (h' : All2 R b d) : All2 R (a ++ b) (c ++ d) := by
  induction h with
  | nil => exact h'
  | cons x _ ih => exact .cons x ih

section
variable {prog : Program} {w : World} {A : Around} {h : Heap} {g : Array GenState} {dr : Drawn} {t : Nat} {os : OsState}
theorem own_store {C a d : Addr} {dt : Data} {sl : Array (Option Value)} {es : List DictEntry} {kv : List (Str × Value)} {n : Nat} {name : Str} {v : Value} {tk : Tok} {b : Bool} {Q : Fin → Shared → Prop} {E : Value → Shared → Prop} (X : (Kt w.params).In h)
    (hc : ∃ cd, clsIn (Kt w.params) C = some cd ∧ cd.hasDict = true)
    (ho : h.get? a = some ⟨.ref C, some d, dt, sl⟩) (hd : h.get? d = some { cls := .type "dict", data := .dict es.toArray n }) (hes : All2 (EntOK w.params) es kv) (hn : ∀ p ∈ kv, p.1 ≠ name) (hlen : es.length ≤ 100)
    (hq : ∀ (h' : Heap) (t' : Nat) (tk' : Tok), Heap.ExtBut d h h' → h'.get? d = some { cls := .type "dict", data := .dict (es ++ [(⟨PyData.keyHash w.params name, .str name tk', v⟩ : DictEntry)]).toArray (n + 1) } → Q (.done (.ret .none)) ⟨h', g, dr, t', os⟩) :
    wpAny (model prog w) A (storeInOwnDict (.ref a) (.ref C) (.str name tk) name v b) Q E ⟨h, g, dr, t, os⟩ := by
  obtain ⟨cd, hc, hdt⟩ := hc
  refine wpAny_bind (wpAny_pure (wpAny_bind (wpAny_bind (wpAny_loadPart ho (wpAny_bind ((looks_clsIn X hc).here ?_))))))
  rw [hdt]
  refine wpAny_pure (a := some d) (wpAny_bind (wpAny_pure (wpAny_bind ?_)))
  unfold nsSet
  refine wpAny_bind (wpAny_bind (wpAny_askSetting (wpAny_pure (wpAny_bind (wpAny_mkText (wpAny_bind (wpAny_loadPart hd ?_)))))))
  dsimp only
  have hr : es.toArray.any (·.refKey) = false := by
    rw [Array.any_eq_false']
    intro x hx
    have := ent_ref hes x (by simpa using hx)
    simp [this]
  rw [if_neg (by rw [aRefKeyMayBeTheName_at, hr]; simp)]
  refine wpAny_updatePart hd ?_
  have D' := Heap.get?_update_self (f := Obj.putName name (PyData.keyHash w.params name) (.str name t) v) hd (by rw [put_new hes hn]; rfl)
  rw [put_new hes hn] at D'
  refine wpAny_bind (wpAny_lookBehind D' (pastItsLine_dict (by simp [sizeLine_eq]; lia)) ?_)
  exact wpAny_pure (hq _ _ _ (Heap.SameBut.update ..).extBut D')
end

section
variable {w : World} {c : Cx w} {ρ : List (List Addr)} {loc : Locs} {cs : List AC} {s s' : Shared} {k : Nat} {sc : Scope}
theorem Cx.OK.withA {A' : Around} (O : c.OK (k + 1) sc) (h1 : A'.handled = c.A.handled) (h2 : A'.frames = c.A.frames) (h3 : A'.depth ≤ c.A.depth + 1) (h4 : A'.units ≤ c.A.units + 20) : ({ c with A := A' } : Cx w).OK k sc :=
  ⟨O.hsc, O.kind, O.glob, O.blt, h1.trans O.hd, h2.trans O.fr, by have := O.depth; show A'.depth + k ≤ 800; lia, by have := O.units; show A'.units + 20 * k ≤ 9000; lia, O.out⟩
theorem Rep.withA {A' : Around} (R : Rep c ρ loc cs s) : Rep ({ c with A := A' } : Cx w) ρ loc cs s := ⟨R.stat, R.fr, R.frs, R.frz, R.len, R.cells, R.apart, R.fresh⟩
theorem Rep.ofA {A' : Around} (R : Rep ({ c with A := A' } : Cx w) ρ loc cs s) : Rep c ρ loc cs s := ⟨R.stat, R.fr, R.frs, R.frz, R.len, R.cells, R.apart, R.fresh⟩
theorem Post.ofA {A' : Around} {ρ' cs' loc'} (P : Post ({ c with A := A' } : Cx w) ρ s loc' cs' s' ρ') : Post c ρ s loc' cs' s' ρ' := ⟨P.pre, P.tk, P.rep.ofA⟩

theorem enter_raw {a : Addr} {sc0 : Scope} {body : List Stmt} {names : List Str} {vs : List Value} {loc0 : Locs} {RR : Result → Shared → Prop} (O : c.OK (k + 1) sc0) (R : Rep c ρ loc cs s) (FP : Fn w.params a sc body names) (hlen : vs.length = names.length)
    (hl0 : ∀ x v, loc0.lookup x = some v → ∃ v', (names.zip vs).lookup x = some v' ∧ VRep ρ s.heap v v')
    (h : ∀ L s0, (c.callee a L loc).OK k sc → Rep (c.callee a L loc) ρ loc0 cs s0 → (∀ b o, s.heap.get? b = some o → s0.heap.get? b = some o) →
      _root_.PySem.wpAt (MD w) (c.callee a L loc).A (.func body (c.callee a L loc).env) (execs body (c.callee a L loc).env) (fun f s' => RR (.ok (.ret (match f with | .ret v => v | _ => .none))) s') (fun _ _ => False) s0) :
    codeAny (MD w) c.A (.call (.ref a) ⟨vs, []⟩) RR s := by
  obtain ⟨oc, od, osl, hat⟩ := FP.at_
  obtain ⟨cc, ocd, cvs, t, hcode, hct, hcl, hcd, hc1⟩ := FP.cd
  refine ks_codeAny_call_defAt (binds := names.zip vs) (by have := O.depth; have e : recursionLimit = 1000 := rfl; lia) (R.stat.keep _ _ (c.B.K _ _ hat) FP.nt) rfl R.stat.lim
    ⟨cc, ocd, cvs, t, hcode, R.stat.keep _ _ (c.B.K _ _ hcl) hct, hcd, hc1⟩ FP.bod (FP.bind s (fun b o e n => R.stat.keep _ _ (c.B.K _ _ e) n) vs hlen) (by rw [FP.scp]; exact FP.cell) ?_ ?_ (by rw [FP.scp]; exact FP.co) (by rw [FP.scp]; exact FP.gen) (by rw [FP.scp]; exact FP.kind)
  · intro x hx
    rw [FP.scp]
    exact FP.loc _ (List.of_mem_zip hx).1
  · intro h0 hns hk
    have R0 := R.enter (a := a) (tk := s.toks + (names.zip vs).length) hns hk (loc0 := loc0) (by
      intro x v e
      rw [lookup_reverse_nodup _ _ (by rw [List.map_fst_zip (by lia)]; exact FP.nd)]
      exact hl0 x v e)
    exact ks_wpAt_mono (h _ _ (O.callee FP) R0 hk) (fun f s' hq => hq) fun _ _ x => x.elim

theorem Rep.swapIce {a b : Addr} {oa ob : Obj} (R : Rep ((c.ice a oa).ice b ob) ρ loc cs s) : Rep ((c.ice b ob).ice a oa) ρ loc cs s := by
  have perm : List.Perm (c.L :: (((c.ice a oa).ice b ob).own ++ ρ.flatten)) (c.L :: (((c.ice b ob).ice a oa).own ++ ρ.flatten)) := by
    refine List.Perm.cons _ (List.Perm.append_right _ ?_)
    show List.Perm (c.fs.map (·.1) ++ b :: a :: c.fz.map (·.1)) (c.fs.map (·.1) ++ a :: b :: c.fz.map (·.1))
    exact List.Perm.append_left _ (List.Perm.swap _ _ _)
  refine ⟨R.stat, R.fr, R.frs, ?_, R.len, R.cells, perm.nodup_iff.mp R.apart, fun x hx => R.fresh x (perm.mem_iff.mpr hx)⟩
  intro p hp
  refine R.frz p ?_
  rcases List.mem_cons.mp hp with rfl | hp
  · exact .tail _ (.head _)
  rcases List.mem_cons.mp hp with rfl | hp
  · exact .head _
  · exact .tail _ (.tail _ hp)

theorem Rep.claim {x d : Addr} {ox od : Obj} {ac : AC} (R : Rep ((c.ice x ox).ice d od) ρ loc cs s) (hn : CellAt w.params (ρ ++ [[x, d]]) s ac [x, d]) : Rep c (ρ ++ [[x, d]]) loc (cs ++ [ac]) s := by
  have hp : ρ <+: ρ ++ [[x, d]] := List.prefix_append _ _
  have R' := R.melt.melt
  have perm1 := Rep.perm (c.ice x ox) d od ρ
  have perm2 := Rep.perm c x ox ρ
  have n1 := List.nodup_cons.mp (perm1.nodup_iff.mpr R.apart)
  have n2 := List.nodup_cons.mp (perm2.nodup_iff.mpr n1.2)
  have hd1 : d ∉ x :: (c.L :: (c.own ++ ρ.flatten)) := fun hm => n1.1 (perm2.mem_iff.mp hm)
  refine ⟨R'.stat, R'.fr.mono hp (TK.refl _) fun _ n => n, fun p hp' => (R'.frs p hp').mono hp (TK.refl _) fun _ n => n, R'.frz, by simp [R.len], ?_, ?_, ?_⟩
  · intro i ac' as' hi ha
    by_cases hlt : i < cs.length
    · rw [List.getElem?_append_left hlt] at hi
      rw [List.getElem?_append_left (by rw [R.len]; exact hlt)] at ha
      exact (R'.cells i ac' as' hi ha).mono hp (TK.refl _) (fun _ _ _ e => e) fun _ _ e => e
    · have hi' : i = cs.length := by
        have := (List.getElem?_eq_some_iff.mp hi).1
        simp at this; lia
      subst hi'
      rw [List.getElem?_append_right (Nat.le_refl _)] at hi
      rw [List.getElem?_append_right (by rw [R.len]; exact Nat.le_refl _), R.len] at ha
      simp at hi ha
      subst hi ha
      exact hn
  · rw [List.flatten_append, List.flatten_cons, List.flatten_nil, List.append_nil, ← List.append_assoc, ← List.cons_append, List.nodup_append]
    refine ⟨R'.apart, ?_, ?_⟩
    · refine List.nodup_cons.mpr ⟨fun h => ?_, List.nodup_cons.mpr ⟨by simp, .nil⟩⟩
      rw [List.mem_singleton] at h
      exact hd1 (h ▸ .head _)
    · intro a ha b hb e
      subst e
      rcases List.mem_cons.mp hb with rfl | hb
      · exact n2.1 ha
      · rw [List.mem_singleton] at hb; subst hb
        exact hd1 (.tail _ ha)
  · intro a ha
    rw [List.flatten_append, List.flatten_cons, List.flatten_nil, List.append_nil, ← List.append_assoc, ← List.cons_append] at ha
    rcases List.mem_append.mp ha with ha | ha
    · exact R'.fresh a ha
    · rcases List.mem_cons.mp ha with rfl | ha
      · exact R.fresh _ (perm1.mem_iff.mp (.tail _ (perm2.mem_iff.mp (.head _))))
      · rw [List.mem_singleton] at ha; subst ha
        exact R.fresh _ (perm1.mem_iff.mp (.head _))

theorem init_step {C x d : Addr} {sl : Array (Option Value)} {dt : Data} {es : List DictEntry} {n : Nat} {kv : List (Str × Value)} {name : Str} {value : Expr} {v : AV} {cs1 : List AC} {p pos' pos : Pos} (O : c.OK k sc)
    (R : Rep ((c.ice x ⟨.ref C, some d, dt, sl⟩).ice d { cls := .type "dict", data := .dict es.toArray n }) ρ loc cs s) (hself : loc.lookup (Str.ofString "self") = some (.stat (.ref x))) (hsl : sc.names.lookup (Str.ofString "self") = some .local)
    (hv : Ev k sc loc cs value v cs1) (hnc : notCls (⟨.ref C, some d, dt, sl⟩ : Obj) = true) (hes : All2 (EntOK w.params) es kv) (hn : ∀ q ∈ kv, q.1 ≠ name) (hlen : es.length ≤ 100) (hc : ∃ cd, clsIn (Kt w.params) C = some cd ∧ cd.hasDict = true)
    (hs : findIn (Kt w.params) (.ref C) "__setattr__" = some (some (.builtin "object.__setattr__")))
    (hosa : ∀ (A : Around) (RR : Result → Shared → Prop) (s : Shared) (tk : Tok) (v : Value) (ox : Obj) (od : Option Obj), (Kt w.params).In s.heap → InstAt s.heap x ox C od →
      (∀ b, wpAny (MD w) A.in1 (storeInOwnDict (.ref x) (.ref C) (.str name tk) name v b) (fun fin s' => match fin with | .done f => RR (.ok f) s' | .again c' => c'.quiet = true ∧ codeAny (MD w) A c' RR s') (fun e s' => RR (.error e) s') s) →
      codeAny (MD w) A (.call (.builtin "object.__setattr__") ⟨[.ref x, .str name tk, v], []⟩) RR s)
    (hsw : ∀ env, swapsWith value (some (.Attribute (.Name (Str.ofString "self") p) name pos')) pos.line env = pure false) :
    wpAny (MD w) c.A (exec (.Assign [.Attribute (.Name (Str.ofString "self") p) name pos'] value pos) c.env) (fun f s' => f = .next ∧ ∃ (ρ' : List (List Addr)) (v' : Value) (tk' : Tok), ρ <+: ρ' ∧ TK s.heap s'.heap ∧
      Rep ((c.ice x ⟨.ref C, some d, dt, sl⟩).ice d { cls := .type "dict", data := .dict (es ++ [(⟨PyData.keyHash w.params name, .str name tk', v'⟩ : DictEntry)]).toArray (n + 1) }) ρ' loc cs1 s' ∧ VRep ρ' s'.heap v v') (fun _ _ => False) s := by
  refine plainObj_wpAny_Assign_Attribute (wpAny_mono (hv w ((c.ice x ⟨.ref C, some d, dt, sl⟩).ice d { cls := .type "dict", data := .dict es.toArray n }) ρ s ((O.ice x _).ice d _) R) (fun v' s1 hq => ?_) fun _ _ x => x.elim) (hsw _)
  obtain ⟨ρ1, P1, V1⟩ := hq
  have R1 := P1.rep
  obtain ⟨m, hns, hm⟩ := R1.fr
  obtain ⟨vself, hms, hvs⟩ := hm _ _ hself
  have hvs : vself = .ref x := hvs
  subst hvs
  refine wpAny_Name (wpAny_loadName_local O.skind (by rw [O.kindOf]; exact hsl) hns hms ?_) rfl
  have hd := R1.frz _ (.head _)
  have hx := R1.frz _ (.tail _ (.head _))
  have X := R1.stat.kt
  have I : InstAt s1.heap x ⟨.ref C, some d, dt, sl⟩ C (some { cls := .type "dict", data := .dict es.toArray n }) := ⟨hx, rfl, hnc, hd⟩
  refine set_plain X I hs ?_
  refine hosa _ _ _ _ _ _ _ X I fun b => ?_
  obtain ⟨hp1, g1, dr1, t1, os1⟩ := s1
  refine own_store X hc hx hd hes hn hlen fun h' t' tk' hxt hg => ?_
  obtain ⟨R2, tk2⟩ := R1.reice (tk := t') hxt hg (by simp)
  exact ⟨rfl, ρ1, v', tk', P1.pre, P1.tk.trans tk2, R2, V1.mono (List.prefix_refl _) tk2⟩
end
end
section
open PySem PySem.W PyProof.Rows PySem.Calls
open PySem.Builtin PySem.Builtin.ObjectAttr
section
variable {w : World} {c : Cx w} {ρ : List (List Addr)} {loc : Locs} {cs : List AC} {s s' : Shared} {k : Nat} {sc : Scope}
theorem Rep.reloc {loc'} (R : Rep c ρ loc cs s) (h : ∀ m, s.heap.Ns c.L m → (∀ x v, loc.lookup x = some v → ∃ v', m x = some v' ∧ VRep ρ s.heap v v') → ∀ x v, loc'.lookup x = some v → ∃ v', m x = some v' ∧ VRep ρ s.heap v v') : Rep c ρ loc' cs s := by
  obtain ⟨m, n, q⟩ := R.fr
  exact ⟨R.stat, ⟨m, n, h m n q⟩, R.frs, R.frz, R.len, R.cells, R.apart, R.fresh⟩
theorem Rep.twoIce (R : Rep c ρ loc cs s) {od ox : Obj} (hd : od.isFreed = false) (hx : ox.isFreed = false) : Rep ((c.ice (s.heap.objs.size + 1) ox).ice s.heap.objs.size od) ρ loc cs { s with heap := (s.heap.push od).push ox } := by
  have R1 := R.addIce (s' := { s with heap := s.heap.push od }) (Heap.get?_push_size s.heap hd) (Nat.le_refl _) (fun b o e => Heap.get?_push_of_some _ e) (fun _ _ e => e) R.stat.bare rfl
  have hsz : s.heap.objs.size + 1 = (s.heap.push od).objs.size := (Heap.size_push ..).symm
  have R2 := R1.addIce (s' := { s with heap := (s.heap.push od).push ox }) (I := s.heap.objs.size + 1) (o := ox) (by rw [hsz]; exact Heap.get?_push_size _ hx) (by rw [hsz]; exact Nat.le_refl _) (fun b o e => Heap.get?_push_of_some _ e) (fun _ _ e => e) R.stat.bare rfl
  exact R2.swapIce
theorem entry_linit : entryFor table "list.__init__" = some Builtin.«list.__init__» := entryFor_of_tree (by kernel_rfl)
theorem linit_run {prog : Program} {w : World} {A : Around} {E : Value → Shared → Prop} {a d : Addr} {n : Nat} {Q : PySem.Fin → Shared → Prop} {s : Shared} (ho : s.heap.get? a = some ⟨.ref 193, some d, .seq #[] n, #[]⟩)
    (hq : ∀ h' t', Heap.ExtBut a s.heap h' → (∃ n', h'.get? a = some ⟨.ref 193, some d, .seq #[] n', #[]⟩) → Q (.done (.ret .none)) { s with heap := h', toks := t' }) :
    wpAny (model prog w) A (Builtin.«list.__init__» ⟨[.ref a], []⟩) Q E s := by
  refine hideG fun Gq hGq => ?_
  obtain ⟨h, g, dr, t, os⟩ := s
  refine hGq ?_
  clear hGq Gq
  unfold Builtin.«list.__init__»
  repeat (first | (with_reducible refine wpAny_listItems ho rfl ?_) | wp_step | dsimp only)
  refine hq _ _ (Heap.SameBut.update ..).extBut ?_
  rw [Heap.get?_update_self _ ho rfl]
  exact ⟨_, rfl⟩
theorem under_tc (A : Around) (C : Addr) (vs : List Value) : (A.under (.builtin "type.__call__" ⟨.ref C :: vs, []⟩)).frames = A.frames := by
  refine hideG fun Gq hGq => ?_
  obtain ⟨hd, d, fr, gs, u⟩ := A
  refine hGq ?_
  clear hGq Gq
  cases fr <;> rfl
set_option maxHeartbeats 1000000 in
theorem cl_newAcc {n : Int} : Cl (k + 4) cs (.ref 193) [.int n] (.obj cs.length) (cs ++ [.acc [] n]) := by
  intro w c ρ loc s vs sc O R V
  refine hideG fun Gq hGq => ?_
  obtain ⟨_, rfl, t, rfl⟩ := V.one
  obtain ⟨h, g, dr, t0, os⟩ := s
  refine hGq ?_
  clear hGq Gq
  have X := R.stat.kt
  refine wpAny_call (make_L X (looks_findIn X (r := some (.ref 130)) (by kernel_rfl)) (fun self => bind_fn X self (by kernel_rfl)) ?_)
  have R2 := R.twoIce (od := emptyDict) (ox := accObj h.objs.size) rfl rfl
  dsimp only at R2
  have X2 := R2.stat.kt
  have k2 : ∀ b o, h.get? b = some o → ((h.push emptyDict).push (accObj h.objs.size)).get? b = some o := fun b o e => Heap.get?_push_of_some _ (Heap.get?_push_of_some _ e)
  have O2 := ((O.ice (h.objs.size + 1) (accObj h.objs.size)).ice h.objs.size emptyDict).withA (A' := c.A.under (.builtin "type.__call__" ⟨[.ref 193, .int n t], []⟩)) rfl (under_tc ..) (Nat.le_refl _) (by show c.A.units + 1 ≤ c.A.units + 20; lia)
  refine enter_raw (k := k + 2) (loc0 := [(Str.ofString "self", .stat (.ref (h.objs.size + 1))), (Str.ofString "initial_size", .int n)]) O2 R2.withA (fn130 w.params) rfl ?_ fun L s0 O0 R0 hk => ?_
  · exact VRep.args (ρ := ρ) (h := (h.push emptyDict).push (accObj h.objs.size)) [Str.ofString "self", Str.ofString "initial_size"] (args := [.stat (.ref (h.objs.size + 1)), .int n]) (vs := [.ref (h.objs.size + 1), .int n t]) (.cons rfl (.cons ⟨t, rfl⟩ .nil)) rfl
  · refine ks_wpAt_execs_cons (wpAt_of_wpAny (wpAny_mono (init_step (C := 193) (kv := []) (v := .int n) (cs1 := cs) (c := (({ c with A := c.A.under (.builtin "type.__call__" ⟨[.ref 193, .int n t], []⟩) } : Cx w).callee 130 L loc)) ⟨O0.hsc, O0.kind, O0.glob, O0.blt, O0.hd, O0.fr, O0.depth, O0.units, O0.out⟩ (es := []) (n := 0) R0 rfl rfl (ev_local rfl rfl rfl) rfl .nil (fun q hq => by cases hq) (by decide) ⟨_, rfl, rfl⟩ (by kernel_rfl) ?_ (fun _ => rfl)) (fun f s1 hq => ?_) fun _ _ x => x))
    · intro A RR s tk v ox od X I h
      exact osa_acc X I h
    · obtain ⟨rfl, ρ1, v1, tk1, hp1, htk1, R1, t1, rfl⟩ := hq
      have hx1 := R1.frz _ (.tail _ (.head _))
      have hd1 := R1.frz _ (.head _)
      have R3 := R1.claim (ac := .acc [] n) ⟨_, _, [], 0, t1, rfl, hx1, ⟨_, _, hd1, .cons ⟨tk1, rfl⟩ .nil⟩, .nil⟩
      have hlen : ρ1.length = cs.length := R1.len
      have R4 := R3.reloc (loc' := [(Str.ofString "self", .obj cs.length), (Str.ofString "initial_size", .int n)]) (fun m hns hm x v e => by
        refine hideG fun Gq hGq => ?_
        obtain ⟨v1, e1, e2⟩ := hm (Str.ofString "self") _ rfl
        obtain ⟨v2, e3, e4⟩ := hm (Str.ofString "initial_size") _ rfl
        refine hGq ?_
        clear hGq Gq
        simp only [List.lookup_cons, List.lookup_nil] at e
        split at e
        · rename_i hxx
          cases e
          have : x = Str.ofString "self" := by simpa using hxx
          subst this
          have e2 : v1 = .ref (h.objs.size + 1) := e2
          subst e2
          exact ⟨_, e1, vrep_new hlen⟩
        · split at e
          · rename_i hxx
            cases e
            have : x = Str.ofString "initial_size" := by simpa using hxx
            subst this
            exact ⟨_, e3, e4⟩
          · cases e)
      have hlast : (cs ++ [AC.acc [] n])[cs.length]? = some (.acc [] n) := by simp
      have O4 : (({ c with A := c.A.under (.builtin "type.__call__" ⟨[.ref 193, .int n t], []⟩) } : Cx w).callee 130 L loc).OK (k + 2) (scA 130) := ⟨O0.hsc, O0.kind, O0.glob, O0.blt, O0.hd, O0.fr, O0.depth, O0.units, O0.out⟩
      refine ks_wpAt_execs_cons (ks_wpAt_Expr_any (sup_step (c := (({ c with A := c.A.under (.builtin "type.__call__" ⟨[.ref 193, .int n t], []⟩) } : Cx w).callee 130 L loc)) (sup130 w.params) rfl R4 rfl hlast bound_init bt_mw (fun P => by kernel_rfl) rfl (by decide +kernel) entry_linit (fun s a d its n od A Q E _ _ _ q => chk_init q) rfl (fun a d s2 ha P => ?_)) O4.inter rfl)
      refine hideG fun Gq hGq => ?_
      obtain ⟨d', its, n', t', t2, n2, e, ho, hd, hpr⟩ := accInst P.rep hlast ha
      refine hGq ?_
      clear hGq Gq
      cases e
      cases hpr
      refine linit_run ho fun h' tq hxt hat => ?_
      obtain ⟨nn, hat⟩ := hat
      have hda : d ≠ a := by rintro rfl; rw [ho] at hd; cases hd
      have S := P.rep.setCell (s' := { s2 with heap := h', toks := tq }) (ac' := .acc [] n) ha (.head _) ho (by simp) hxt (fun _ _ e => e) P.rep.stat.bare rfl ⟨a, d, [], nn, t', rfl, hat, ⟨[⟨PyData.keyHash w.params "_initial_size", .str "_initial_size" t2, .int n t'⟩], n2, hxt _ _ hda hd, .cons ⟨t2, rfl⟩ .nil⟩, .nil⟩
      have es : (cs ++ [AC.acc [] n]).set cs.length (AC.acc [] n) = cs ++ [AC.acc [] n] := by rw [List.set_append_right _ _ (Nat.le_refl _)]; simp
      rw [es] at S
      refine wpAt_of_wpAny (wpAny_execs_nil ?_)
      refine ⟨rfl, ρ1 ++ [[h.objs.size + 1, h.objs.size]], ?_, vrep_new hlen⟩
      have PP := P.trans S
      have tk0 : TK h s1.heap := (TK.of_keeps fun b o e => hk b o (k2 b o e)).trans htk1
      have L1 := Post.leave (c := ({ c with A := c.A.under (.builtin "type.__call__" ⟨[.ref 193, .int n t], []⟩) } : Cx w)) (s := ⟨h, g, dr, t0, os⟩) (ρ := ρ) (s0 := s1) (a := 130) (L := L) (loc := loc) tk0 ⟨hp1.trans (List.prefix_append _ _), PP.tk, PP.rep⟩
      exact L1.ofA
theorem ev_callC {x : Str} {p pos : Pos} {e : Expr} {rest : List Expr} {f : Addr} {avs : List AV} {v cs1 cs2} (hf : Ev k sc loc cs (.Name x p) (.stat (.ref f)) cs) (ha : EvL k sc loc cs (e :: rest) avs cs1)
    (hc : Cl k cs1 (.ref f) avs v cs2) (hcal : ∀ P, keepIn (Kt P) (.ref f) = true) (he : ∀ env, starEach (e :: rest) env = (false, PySem.eval e env) :: starEach rest env) (hpl : ∀ env, (backTo pos (starEach rest env)).any (·.1) = false) : Ev k sc loc cs (.Call (.Name x p) (e :: rest) [] pos) v cs2 := by
  intro w c ρ s O R
  refine wpAny_Call_NameR (wpAny_mono (hf w c ρ s O R) (fun f' s1 h => ?_) fun _ _ x => x.elim)
  obtain ⟨ρ1, P1, rfl⟩ := h
  refine callWith_K R.stat.kt (hcal _) (wpAny_mono (ha w c ρ1 s1 pos O P1.rep) (fun vs s2 hq => ?_) fun _ _ x => x) (he _) (hpl _)
  obtain ⟨ρ2, P2, V2⟩ := hq
  refine ⟨P2.rep.stat.kt, ?_⟩
  refine wpAny_mono (hc w c ρ2 loc s2 vs sc O P2.rep V2) (fun v' s3 h => ?_) fun _ _ x => x
  obtain ⟨ρ3, P3, V3⟩ := h
  exact ⟨ρ3, (P1.trans P2).trans P3, V3⟩
theorem keep193 (P : Params) : keepIn (Kt P) (.ref 193) = true := by kernel_rfl
theorem keep109 (P : Params) : keepIn (Kt P) (.ref 109) = true := by kernel_rfl
end
end
section
open PySem PySem.W PyProof.Rows PySem.Calls
open PySem.Builtin PySem.Builtin.ObjectAttr
section
variable {w : World} {c : Cx w} {ρ : List (List Addr)} {loc : Locs} {cs : List AC} {s s' : Shared} {k : Nat} {sc : Scope}
noncomputable abbrev dictOf (es : List DictEntry) (n : Nat) : Obj := { cls := .type "dict", data := .dict es.toArray n }
theorem fm_step {x d : Addr} {es : List DictEntry} {n : Nat} {kv : List (Str × Value)} {name : Str} {value : Expr} {v : AV} {cs1 : List AC} {p pos' pos : Pos} {rest : List Stmt} {Q : Flow → Shared → Prop} (O : c.OK k sc)
    (R : Rep ((c.ice x (instObj 109 d)).ice d (dictOf es n)) ρ loc cs s) (hself : loc.lookup (Str.ofString "self") = some (.stat (.ref x))) (hsl : sc.names.lookup (Str.ofString "self") = some .local)
    (hv : Ev k sc loc cs value v cs1) (hes : All2 (EntOK w.params) es kv) (hn : ∀ q ∈ kv, q.1 ≠ name) (hlen : es.length ≤ 100) (ht : ∀ P, takerIn (Kt P) 109 name = some none)
    (hsw : ∀ env, swapsWith value (some (.Attribute (.Name (Str.ofString "self") p) name pos')) pos.line env = pure false)
    (next : ∀ (ρ' : List (List Addr)) (v' : Value) (es' : List DictEntry) s', ρ <+: ρ' → TK s.heap s'.heap → Rep ((c.ice x (instObj 109 d)).ice d (dictOf es' (n + 1))) ρ' loc cs1 s' → VRep ρ' s'.heap v v' → All2 (EntOK w.params) es' (kv ++ [(name, v')]) → es'.length = es.length + 1 →
      wpAny (MD w) c.A (execs rest c.env) Q (fun _ _ => False) s') :
    wpAny (MD w) c.A (execs (.Assign [.Attribute (.Name (Str.ofString "self") p) name pos'] value pos :: rest) c.env) Q (fun _ _ => False) s := by
  refine wpAny_execs_cons (wpAny_mono (init_step O R hself hsl hv rfl hes hn hlen ⟨_, rfl, rfl⟩ (by kernel_rfl) (fun A RR s tk v ox od X I h => osa_open (r := none) X I (by kernel_rfl) (ht _) h) hsw) (fun f s1 hq => ?_) fun _ _ x => x)
  refine hideG fun Gq hGq => ?_
  obtain ⟨rfl, ρ', v', tk', hp, htk, R', V⟩ := hq
  refine hGq ?_
  clear hGq Gq
  exact next ρ' v' _ s1 hp htk R' V (hes.append (.cons ⟨tk', rfl⟩ .nil)) (by simp)
set_option maxHeartbeats 2000000 in
theorem cl_newFm {hd wd : Int} {ws sp : Str} (hws : ws.length ≤ 100) : Cl (k + 8) cs (.ref 109) [.int hd, .int wd, .str ws, .str sp] (.obj (cs.length + 2)) (cs ++ [.strL [], .acc [] hd, .fm wd ws cs.length (cs.length + 1)]) := by
  intro w c ρ loc s vs sc O R V
  obtain ⟨v1, v2, v3, v4, rfl, ⟨u1, rfl⟩, ⟨u2, rfl⟩, ⟨u3, rfl⟩, ⟨u4, rfl⟩⟩ : ∃ v1 v2 v3 v4, vs = [v1, v2, v3, v4] ∧ VRep ρ s.heap (.int hd) v1 ∧ VRep ρ s.heap (.int wd) v2 ∧ VRep ρ s.heap (.str ws) v3 ∧ VRep ρ s.heap (.str sp) v4 := by
    cases V with | cons a V => cases V with | cons b V => cases V with | cons c V => cases V with | cons d V => cases V; exact ⟨_, _, _, _, rfl, a, b, c, d⟩
  refine hideG fun Gq hGq => ?_
  obtain ⟨h, g, dr, t0, os⟩ := s
  refine hGq ?_
  clear hGq Gq
  have X := R.stat.kt
  refine wpAny_call (make_core (makes_of X (by kernel_rfl)) (looks_findIn X (r := some (.ref 50)) (by kernel_rfl)) (fun self => bind_fn X self (by kernel_rfl)) (.inl rfl) ?_)
  have R2 := R.twoIce (od := emptyDict) (ox := instObj 109 h.objs.size) rfl rfl
  dsimp only at R2
  have k2 : ∀ b o, h.get? b = some o → ((h.push emptyDict).push (instObj 109 h.objs.size)).get? b = some o := fun b o e => Heap.get?_push_of_some _ (Heap.get?_push_of_some _ e)
  have O2 := ((O.ice (h.objs.size + 1) (instObj 109 h.objs.size)).ice h.objs.size emptyDict).withA (A' := c.A.under (.builtin "type.__call__" ⟨[.ref 109, .int hd u1, .int wd u2, .str ws u3, .str sp u4], []⟩)) rfl (under_tc ..) (Nat.le_refl _) (by show c.A.units + 1 ≤ c.A.units + 20; lia)
  refine enter_raw (k := k + 6) (loc0 := [(Str.ofString "self", .stat (.ref (h.objs.size + 1))), (Str.ofString "headerlen", .int hd), (Str.ofString "maxlen", .int wd), (Str.ofString "continuation_ws", .str ws), (Str.ofString "splitchars", .str sp)]) O2 R2.withA (fn50 w.params) rfl ?_ fun L s0 O0 R0 hk => ?_
  · exact VRep.args (ρ := ρ) (h := (h.push emptyDict).push (instObj 109 h.objs.size)) [Str.ofString "self", Str.ofString "headerlen", Str.ofString "maxlen", Str.ofString "continuation_ws", Str.ofString "splitchars"] (args := [.stat (.ref (h.objs.size + 1)), .int hd, .int wd, .str ws, .str sp])
      (vs := [.ref (h.objs.size + 1), .int hd u1, .int wd u2, .str ws u3, .str sp u4]) (.cons rfl (.cons ⟨u1, rfl⟩ (.cons ⟨u2, rfl⟩ (.cons ⟨u3, rfl⟩ (.cons ⟨u4, rfl⟩ .nil))))) rfl
  · have O4 : (({ c with A := c.A.under (.builtin "type.__call__" ⟨[.ref 109, .int hd u1, .int wd u2, .str ws u3, .str sp u4], []⟩) } : Cx w).callee 50 L loc).OK (k + 6) (scA 50) := ⟨O0.hsc, O0.kind, O0.glob, O0.blt, O0.hd, O0.fr, O0.depth, O0.units, O0.out⟩
    refine wpAt_of_wpAny ?_
    have hl : ws.length ≤ 100000 := by lia
    refine fm_step (c := (({ c with A := c.A.under (.builtin "type.__call__" ⟨[.ref 109, .int hd u1, .int wd u2, .str ws u3, .str sp u4], []⟩) } : Cx w).callee 50 L loc)) (es := []) (kv := []) (n := 0) O4 R0 rfl rfl (v := .int wd) (by kl_some) .nil (fun q hq => by cases hq) (by decide) (fun P => by kernel_rfl) (fun _ => rfl) fun ρ1 v1 es1 s1 hp1 htk1 R1 V1 A1 L1 => ?_
    refine fm_step (c := (({ c with A := c.A.under (.builtin "type.__call__" ⟨[.ref 109, .int hd u1, .int wd u2, .str ws u3, .str sp u4], []⟩) } : Cx w).callee 50 L loc)) O4 R1 rfl rfl (v := .str ws) (by kl_some) A1 (by simp; decide) (by rw [L1]; decide) (fun P => by kernel_rfl) (fun _ => rfl) fun ρ2 v2 es2 s2 hp2 htk2 R2 V2 A2 L2 => ?_
    refine fm_step (c := (({ c with A := c.A.under (.builtin "type.__call__" ⟨[.ref 109, .int hd u1, .int wd u2, .str ws u3, .str sp u4], []⟩) } : Cx w).callee 50 L loc)) O4 R2 rfl rfl (v := .int ws.length) (by kl_some) A2 (by simp; decide) (by rw [L2, L1]; decide) (fun P => by kernel_rfl) (fun _ => rfl) fun ρ3 v3 es3 s3 hp3 htk3 R3 V3 A3 L3 => ?_
    refine fm_step (c := (({ c with A := c.A.under (.builtin "type.__call__" ⟨[.ref 109, .int hd u1, .int wd u2, .str ws u3, .str sp u4], []⟩) } : Cx w).callee 50 L loc)) O4 R3 rfl rfl (v := .str sp) (by kl_some) A3 (by simp; decide) (by rw [L3, L2, L1]; decide) (fun P => by kernel_rfl) (fun _ => rfl) fun ρ4 v4 es4 s4 hp4 htk4 R4 V4 A4 L4 => ?_
    refine fm_step (c := (({ c with A := c.A.under (.builtin "type.__call__" ⟨[.ref 109, .int hd u1, .int wd u2, .str ws u3, .str sp u4], []⟩) } : Cx w).callee 50 L loc)) O4 R4 rfl rfl (v := .obj cs.length) (cs1 := cs ++ [.strL []]) (ev_listS (l := []) evl_nil (by decide)) A4 (by simp; decide) (by rw [L4, L3, L2, L1]; decide) (fun P => by kernel_rfl) (fun _ => rfl) fun ρ5 v5 es5 s5 hp5 htk5 R5 V5 A5 L5 => ?_
    have hna := cl_newAcc (k := k + 2) (cs := cs ++ [AC.strL []]) (n := hd)
    refine fm_step (c := (({ c with A := c.A.under (.builtin "type.__call__" ⟨[.ref 109, .int hd u1, .int wd u2, .str ws u3, .str sp u4], []⟩) } : Cx w).callee 50 L loc)) O4 R5 rfl rfl (v := .obj (cs ++ [AC.strL []]).length) (cs1 := (cs ++ [.strL []]) ++ [.acc [] hd]) (ev_callC (by kl_some) (by kl_some) hna keep193 (fun _ => rfl) (fun _ => rfl)) A5 (by simp; decide) (by rw [L5, L4, L3, L2, L1]; decide) (fun P => by kernel_rfl) (fun _ => rfl) fun ρ6 v6 es6 s6 hp6 htk6 R6 V6 A6 L6 => ?_
    refine hideG fun Gq hGq => ?_
    obtain ⟨t1, rfl⟩ := V1
    obtain ⟨t2, rfl⟩ := V2
    obtain ⟨t3, rfl⟩ := V3
    obtain ⟨la, lr, hla, rfl⟩ := V5
    obtain ⟨aa, ar, haa, rfl⟩ := V6
    refine hGq ?_
    clear hGq Gq
    have hx6 := R6.frz _ (.tail _ (.head _))
    have hd6 := R6.frz _ (.head _)
    have hpre : ρ6 <+: ρ6 ++ [[h.objs.size + 1, h.objs.size]] := List.prefix_append _ _
    have R7 := R6.claim (ac := .fm wd ws cs.length (cs.length + 1)) ⟨_, _, t1, t2, t3, v4, la, lr, aa, ar, rfl, hx6, prefix_get (hp6.trans hpre) hla, prefix_get hpre (by simpa using haa), ⟨es6, _, hd6, A6⟩⟩
    refine wpAny_execs_nil ?_
    have tk0 : TK h s6.heap := (((((TK.of_keeps fun b o e => hk b o (k2 b o e)).trans htk1).trans htk2).trans htk3).trans htk4).trans (htk5.trans htk6)
    have hlen : ρ6.length = cs.length + 2 := by have := R6.len; simpa using this
    have L1 := Post.leave (c := ({ c with A := c.A.under (.builtin "type.__call__" ⟨[.ref 109, .int hd u1, .int wd u2, .str ws u3, .str sp u4], []⟩) } : Cx w)) (s := ⟨h, g, dr, t0, os⟩) (ρ := ρ) (s0 := s6) (a := 50) (L := L) (loc := loc) tk0
      ⟨((((hp1.trans hp2).trans hp3).trans hp4).trans (hp5.trans hp6)).trans hpre, TK.refl _, R7⟩
    refine ⟨rfl, ρ6 ++ [[h.objs.size + 1, h.objs.size]], ?_, vrep_new hlen⟩
    have e : cs ++ [AC.strL [], AC.acc [] hd, AC.fm wd ws cs.length (cs.length + 1)] = (cs ++ [AC.strL []]) ++ [AC.acc [] hd] ++ [AC.fm wd ws cs.length (cs.length + 1)] := by simp
    rw [e]
    exact L1.ofA
end
end
section
open PySem PySem.W PySem.W.X PyProof.Rows PySem.Calls
section
variable {prog : Program} {w : World} {A : Around} {s : Shared} {env : Env} {P : End → Shared → Prop}
noncomputable abbrev wkFrame (body : List Stmt) (env : Env) (p0 : Pos) : Frame := .ret (wK env (cK [] env gK (gH env)) (gH env)) none false [] (.func body env) p0 []

theorem any_resume {α : Type} {Q : α → Shared → Prop} {E : Value → Shared → Prop} {g : Nat} {gs : GenState} {r : Resume} {l : List Value} {k : GenResult → Sem α} {c₀ : Code} {t₀ : Sem PySem.Fin} {fs₀ : List Frame} (hg : s.gens[g]? = some gs)
    (hgs : (gs = .fresh c₀ ∧ r = .send .none ∧ t₀ = denote table c₀ ∧ fs₀ = []) ∨ (∃ k₀ l₀ p₀ cl, gs = .suspended k₀ l₀ c₀ p₀ fs₀ cl ∧ t₀ = k₀ r))
    (x : SegX (model prog w) A c₀ t₀ fs₀ (s.setGen g .running) (fun e s₁ => wpAny (model prog w) A (k e.result) Q E (s₁.setGen g e.genState))) : wpAny (model prog w) A (.resume g r l k) Q E s :=
  wake_any α prog w hg hgs (fun Γ => Γ.In A) (fun _ h => h) x

theorem seg_fresh {e1 : Expr} {y1 p1 : Pos} {rest : List Stmt} (hco : env.scope.isCoroutine = false) (hi : interactive env = false)
    (h : wpAny (model prog w) (A.over (.func (.Expr (.Yield (some e1) y1) p1 :: rest) env) []) (PySem.eval e1 env) (fun v s' => ∀ p, P (.susp v false [] (yK e1 y1 p1 (cK rest env gK (gH env)) (gH env)) (.func (.Expr (.Yield (some e1) y1) p1 :: rest) env) p []) s') (fun _ _ => False) s) :
    SegX (model prog w) A (.func (.Expr (.Yield (some e1) y1) p1 :: rest) env) (denote table (.func (.Expr (.Yield (some e1) y1) p1 :: rest) env)) [] s P := by
  refine segx_func (segx_cons (segx_yield rfl rfl (wpAny_mono h (fun v s' hq => hq) fun x s' hq => hq.elim) hco hi))

theorem seg_loop {t e2 : Expr} {y2 p2 : Pos} {fs : List Frame} (hco : env.scope.isCoroutine = false) (hi : interactive env = false) (hfs : splitAtGen fs = none) (hfg : fs.any Frame.guarded = false)
    (ht : ∀ (A : Around) (s : Shared) (Q : Bool → Shared → Prop) (E : Value → Shared → Prop), Q true s → wpAny (model prog w) A (isTrue t env (PySem.eval t env)) Q E s)
    (h : wpAny (model prog w) (A.over (.whileLoop t [.Expr (.Yield (some e2) y2) p2] [] env) fs) (PySem.eval e2 env) (fun v s' => ∀ p, P (.susp v false [] (yK e2 y2 p2 (cK [] env (lK t [.Expr (.Yield (some e2) y2) p2] [] env) (lH env)) (lH env)) (.whileLoop t [.Expr (.Yield (some e2) y2) p2] [] env) p fs) s') (fun _ _ => False) s) :
    SegX (model prog w) A (.whileLoop t [.Expr (.Yield (some e2) y2) p2] [] env) ((model prog w).den (.whileLoop t [.Expr (.Yield (some e2) y2) p2] [] env)) fs s P := by
  refine segx_loop (ht _ _ _ _ ⟨rfl, ?_⟩)
  exact segx_cons (segx_yield hfs hfg (wpAny_mono h (fun v s' hq => hq) fun x s' hq => hq.elim) hco hi)

theorem seg_second {e1 t e2 : Expr} {y1 p1 y2 p2 pw : Pos} {body : List Stmt} (hco : env.scope.isCoroutine = false) (hi : interactive env = false)
    (ht : ∀ (A : Around) (s : Shared) (Q : Bool → Shared → Prop) (E : Value → Shared → Prop), Q true s → wpAny (model prog w) A (isTrue t env (PySem.eval t env)) Q E s)
    (h : ∀ p0, wpAny (model prog w) (A.over (.whileLoop t [.Expr (.Yield (some e2) y2) p2] [] env) [wkFrame body env p0]) (PySem.eval e2 env) (fun v s' => ∀ p, P (.susp v false [] (yK e2 y2 p2 (cK [] env (lK t [.Expr (.Yield (some e2) y2) p2] [] env) (lH env)) (lH env)) (.whileLoop t [.Expr (.Yield (some e2) y2) p2] [] env) p [wkFrame body env p0]) s') (fun _ _ => False) s) :
    SegX (model prog w) A (.func body env) (yK e1 y1 p1 (cK [.While t [.Expr (.Yield (some e2) y2) p2] [] pw] env gK (gH env)) (gH env) (.send .none)) [] s P := by
  refine segx_wake ?_
  show SegX _ _ _ ((execs [.While t [.Expr (.Yield (some e2) y2) p2] [] pw] env).wrap gK (gH env) id id) _ _ _
  refine segx_cons (segx_While fun p => ?_)
  exact seg_loop hco hi rfl rfl ht (h p)
theorem segx_nil {K : Flow → Sem PySem.Fin} {H : Value → Sem PySem.Fin} {c : Code} {fs : List Frame} (h : SegX (model prog w) A c (K .next) fs s P) : SegX (model prog w) A c ((execs [] env).wrap K H id id) fs s P := h
theorem seg_third {t e2 : Expr} {y2 p2 p0 : Pos} {body : List Stmt} (hco : env.scope.isCoroutine = false) (hi : interactive env = false)
    (ht : ∀ (A : Around) (s : Shared) (Q : Bool → Shared → Prop) (E : Value → Shared → Prop), Q true s → wpAny (model prog w) A (isTrue t env (PySem.eval t env)) Q E s)
    (h : wpAny (model prog w) (A.over (.whileLoop t [.Expr (.Yield (some e2) y2) p2] [] env) [wkFrame body env p0]) (PySem.eval e2 env) (fun v s' => ∀ p, P (.susp v false [] (yK e2 y2 p2 (cK [] env (lK t [.Expr (.Yield (some e2) y2) p2] [] env) (lH env)) (lH env)) (.whileLoop t [.Expr (.Yield (some e2) y2) p2] [] env) p [wkFrame body env p0]) s') (fun _ _ => False) s) :
    SegX (model prog w) A (.whileLoop t [.Expr (.Yield (some e2) y2) p2] [] env) (yK e2 y2 p2 (cK [] env (lK t [.Expr (.Yield (some e2) y2) p2] [] env) (lH env)) (lH env) (.send .none)) [wkFrame body env p0] s P := by
  refine segx_wake ?_
  show SegX _ _ _ ((execs [] env).wrap (lK t [.Expr (.Yield (some e2) y2) p2] [] env) (lH env) id id) _ _ _
  refine segx_nil ?_
  exact segx_again rfl (seg_loop hco hi rfl rfl ht h)
end
end
section
open PySem PySem.W PySem.W.X PyProof.Rows PySem.Calls

noncomputable def Heads (ρ ρ' : List (List Addr)) : Prop := ∀ (i : Nat) (x : Addr) (r : List Addr), ρ[i]? = some (x :: r) → ∃ r', ρ'[i]? = some (x :: r')
theorem VRep.heads {ρ ρ' : List (List Addr)} {h : Heap} {a : AV} {v : Value} (x : VRep ρ h a v) (hh : Heads ρ ρ') : VRep ρ' h a v := by
  cases a <;> simp only [VRep] at x ⊢ <;> try exact x
  refine hideG fun Gq hGq => ?_
  obtain ⟨a, r, e, q⟩ := x
  obtain ⟨r', e'⟩ := hh _ _ _ e
  refine hGq ?_
  clear hGq Gq
  exact ⟨a, r', e', q⟩
theorem FrameAt.heads {ρ ρ' : List (List Addr)} {h : Heap} {L : Addr} {loc : Locs} (x : FrameAt ρ h L loc) (hh : Heads ρ ρ') : FrameAt ρ' h L loc := by
  obtain ⟨m, n, k⟩ := x
  exact ⟨m, n, fun y v e => let ⟨v', a, b⟩ := k y v e; ⟨v', a, b.heads hh⟩⟩
noncomputable def Still : AC → Prop
  | .gen _ _ => False
  | .run _ _ => False
  | _ => True
theorem CellAt.heads {P : Params} {ρ ρ' : List (List Addr)} {s s' : Shared} {ac : AC} {as : List Addr} (x : CellAt P ρ s ac as) (hh : Heads ρ ρ') (hs : Still ac) (hp : s'.heap = s.heap) : CellAt P ρ' s' ac as := by
  refine hideG fun Gq hGq => ?_
  obtain ⟨hp1, g1, d1, t1, o1⟩ := s
  obtain ⟨hp2, g2, d2, t2, o2⟩ := s'
  refine hGq ?_
  clear hGq Gq
  cases hp
  cases ac with
  | intL l => exact x
  | strL l => exact x
  | acc l i => exact x
  | fm ml ws li ai =>
    refine hideG fun Gq hGq => ?_
    obtain ⟨a, d, t1, t2, t3, vsp, la, lr, aa, ar, rfl, x, y, z, u⟩ := x
    obtain ⟨r1, e1⟩ := hh _ _ _ y
    obtain ⟨r2, e2⟩ := hh _ _ _ z
    refine hGq ?_
    clear hGq Gq
    exact ⟨a, d, t1, t2, t3, vsp, la, r1, aa, r2, rfl, x, e1, e2, u⟩
  | coder => exact x
  | gen f b => exact hs.elim
  | run o g => exact hs.elim
  | fix o => exact x

theorem set_perm : ∀ (ρ : List (List Addr)) (g : Nat) (a L : Addr), ρ[g]? = some [a, L] → List.Perm (L :: (ρ.set g [a]).flatten) ρ.flatten
  | [], g, a, L, h => by simp at h
  | x :: r, 0, a, L, h => by
    simp at h; subst h
    simp only [List.set_cons_zero, List.flatten_cons]
    exact List.Perm.swap _ _ _
  | x :: r, g + 1, a, L, h => by
    simp only [List.set_cons_succ, List.flatten_cons]
    have ih := set_perm r g a L (by simpa using h)
    exact (List.perm_middle.symm).trans (List.Perm.append_left _ ih)

theorem heads_set {ρ : List (List Addr)} {g : Nat} {a : Addr} {r0 r1 : List Addr} (h : ρ[g]? = some (a :: r0)) : Heads ρ (ρ.set g (a :: r1)) := by
  intro i x r e
  by_cases hi : g = i
  · subst hi
    rw [h] at e; cases e
    exact ⟨r1, List.getElem?_set_self (List.getElem?_eq_some_iff.mp h).1⟩
  · exact ⟨r, by rw [List.getElem?_set_ne hi]; exact e⟩
theorem heads_app {ρ ρ' t : List (List Addr)} (hl : ρ.length = ρ'.length) (h : Heads ρ ρ') : Heads (ρ ++ t) (ρ' ++ t) := by
  intro i x r e
  by_cases hi : i < ρ.length
  · rw [List.getElem?_append_left hi] at e
    obtain ⟨r', e'⟩ := h _ _ _ e
    exact ⟨r', by rw [List.getElem?_append_left (by lia)]; exact e'⟩
  · rw [List.getElem?_append_right (by lia)] at e
    exact ⟨r, by rw [List.getElem?_append_right (by lia), ← hl]; exact e⟩

section
variable {w : World} {c : Cx w} {ρ : List (List Addr)} {loc : Locs} {cs : List AC} {s s' : Shared} {k : Nat} {sc : Scope}
noncomputable def Cx.gen {w : World} (c : Cx w) (A' : Around) (L : Addr) (loc : Locs) : Cx w where
  B := c.B
  A := A'
  fd := fdOf w.params 92
  a := 92
  L := L
  fs := (c.L, loc) :: c.fs
  fz := c.fz
  outer := c.env :: c.outer
theorem AllBare.set {gens : Array GenState} {g : Nat} {gs : GenState} (x : AllBare gens) (hg : gs.bare = true) : AllBare (gens.setIfInBounds g gs) := fun y hy => by
  rcases Array.mem_or_eq_of_mem_setIfInBounds hy with h | rfl
  · exact x y h
  · exact hg
theorem Rep.intoGen (R : Rep c ρ loc cs s) {g f a L gi fa : Nat} {fr : List Addr} {o : Obj} {b : Bool} {m : Str → Option Value} {A' : Around} (hc : cs[g]? = some (.gen f b)) (ha : ρ[g]? = some [a, L]) (hstill : ∀ j ac, cs[j]? = some ac → j ≠ g → Still ac)
    (ho : s.heap.get? a = some o) (hot : o.cls ≠ .type "tuple") (hf : ρ[f]? = some (fa :: fr)) (hns : s.heap.Ns L m) (hself : m (Str.ofString "self") = some (.ref fa)) (hgi : gi < s.gens.size) :
    Rep (c.gen A' L loc) (ρ.set g [a]) [(Str.ofString "self", .obj f)] (cs.set g (.run o gi)) (s.setGen gi .running) := by
  have hh : Heads ρ (ρ.set g [a]) := heads_set ha
  have perm : List.Perm ((c.gen A' L loc).L :: ((c.gen A' L loc).own ++ (ρ.set g [a]).flatten)) (c.L :: (c.own ++ ρ.flatten)) := by
    show List.Perm (L :: ((c.L :: c.own) ++ (ρ.set g [a]).flatten)) (c.L :: (c.own ++ ρ.flatten))
    refine (List.perm_middle.symm).trans ?_
    rw [List.cons_append]
    exact List.Perm.cons _ (List.Perm.append_left _ (set_perm _ _ _ _ ha))
  refine ⟨⟨R.stat.keep, R.stat.tab, AllBare.set R.stat.bare rfl, R.stat.os⟩, ⟨m, hns, ?_⟩, ?_, R.frz, by simp [R.len], ?_, perm.nodup_iff.mpr R.apart, fun x hx => R.fresh x (perm.mem_iff.mp hx)⟩
  · intro x v e
    simp only [List.lookup_cons, List.lookup_nil] at e
    split at e
    · rename_i hx
      have : x = Str.ofString "self" := by simpa using hx
      subst this
      cases e
      obtain ⟨r', e'⟩ := hh _ _ _ hf
      exact ⟨_, hself, fa, r', e', rfl⟩
    · cases e
  · intro p hp
    rcases List.mem_cons.mp hp with rfl | hp
    · exact R.fr.heads hh
    · exact (R.frs p hp).heads hh
  · intro i ac as hi hai
    by_cases e : g = i
    · subst e
      rw [List.getElem?_set_self (lt_of_get hc)] at hi
      rw [List.getElem?_set_self (List.getElem?_eq_some_iff.mp ha).1] at hai
      cases hi; cases hai
      refine ⟨a, rfl, ho, hot, ?_⟩
      show (s.gens.setIfInBounds gi .running)[gi]? = some .running
      rw [Array.getElem?_setIfInBounds_self_of_lt hgi]
    · rw [List.getElem?_set_ne e] at hi hai
      exact (R.cells i ac as hi hai).heads hh (hstill i ac hi fun h => e h.symm) rfl
theorem Rep.outGen {ρ3 : List (List Addr)} {g f a L gi : Nat} {o : Obj} {b : Bool} {A' : Around} {s3 : Shared} {gs : GenState} (R : Rep c ρ loc cs s) (hc : cs[g]? = some (.gen f b)) (ha : ρ[g]? = some [a, L]) (hstill : ∀ j ac, cs[j]? = some ac → j ≠ g → Still ac)
    (R3 : Rep (c.gen A' L loc) ρ3 [(Str.ofString "self", .obj f)] (cs.set g (.run o gi)) s3) (hp : ρ.set g [a] <+: ρ3) (htk : TK s.heap s3.heap) (hog : ∀ h : Heap, h.get? a = some o → h.IsGen a gi) (hb : gs.bare = true) (hgs : GenSt (callEnv (fdOf w.params 92) L 92) (fbody (fdOf w.params 92)) true gs) :
    ∃ ρ', Post c ρ s loc (cs.set g (.gen f true)) (s3.setGen gi gs) ρ' ∧ Heads ρ3 ρ' := by
  obtain ⟨t, rfl⟩ := hp
  have hlen : ρ.length = (ρ.set g [a]).length := by simp
  have hlg : g < ρ.length := (List.getElem?_eq_some_iff.mp ha).1
  have ha2 : (ρ.set g [a])[g]? = some [a] := List.getElem?_set_self hlg
  have hset : (ρ.set g [a]).set g [a, L] = ρ := by
    rw [List.set_set]
    refine List.ext_getElem? fun i => ?_
    by_cases e : g = i
    · subst e; rw [List.getElem?_set_self hlg, ha]
    · rw [List.getElem?_set_ne e]
  have hh : Heads (ρ.set g [a] ++ t) (ρ ++ t) := heads_app hlen.symm (by
    have := heads_set (r1 := [L]) ha2
    rwa [hset] at this)
  have perm : List.Perm ((c.gen A' L loc).L :: ((c.gen A' L loc).own ++ (ρ.set g [a] ++ t).flatten)) (c.L :: (c.own ++ (ρ ++ t).flatten)) := by
    show List.Perm (L :: ((c.L :: c.own) ++ (ρ.set g [a] ++ t).flatten)) (c.L :: (c.own ++ (ρ ++ t).flatten))
    refine (List.perm_middle.symm).trans ?_
    rw [List.cons_append]
    refine List.Perm.cons _ (List.Perm.append_left _ ?_)
    rw [List.flatten_append, List.flatten_append, ← List.cons_append]
    exact List.Perm.append_right _ (set_perm _ _ _ _ ha)
  have hrun := R3.cells g (.run o gi) [a] (List.getElem?_set_self (lt_of_get hc)) (by rw [List.getElem?_append_left (by lia)]; exact ha2)
  refine hideG fun Gq hGq => ?_
  obtain ⟨a', e', hoa, hot, hgr⟩ := hrun
  refine hGq ?_
  clear hGq Gq
  cases e'
  have hgi : gi < s3.gens.size := (Array.getElem?_eq_some_iff.mp hgr).1
  refine ⟨ρ ++ t, ⟨List.prefix_append _ _, htk, ⟨⟨R3.stat.keep, R3.stat.tab, AllBare.set R3.stat.bare hb, R3.stat.os⟩, (R3.frs _ (.head _)).heads hh, fun p hp => (R3.frs p (.tail _ hp)).heads hh, R3.frz, ?_, ?_, perm.nodup_iff.mp R3.apart, fun x hx => R3.fresh x (perm.mem_iff.mpr hx)⟩⟩, hh⟩
  · have := R3.len
    simp only [List.length_append, List.length_set] at this ⊢
    lia
  · intro i ac as hi hai
    by_cases e : g = i
    · subst e
      rw [List.getElem?_set_self (lt_of_get hc)] at hi
      rw [List.getElem?_append_left hlg, ha] at hai
      cases hi; cases hai
      refine hideG fun Gq hGq => ?_
      obtain ⟨m, hns, hm⟩ := R3.fr
      obtain ⟨v', e1, fa, fr, e2, rfl⟩ := hm (Str.ofString "self") (.obj f) rfl
      obtain ⟨fr', e3⟩ := hh _ _ _ e2
      refine hGq ?_
      clear hGq Gq
      refine ⟨a, L, gi, fa, fr', m, gs, rfl, hog _ hoa, e3, hns, e1, ?_, hgs⟩
      show (s3.gens.setIfInBounds gi gs)[gi]? = some gs
      rw [Array.getElem?_setIfInBounds_self_of_lt hgi]
    · rw [List.getElem?_set_ne e] at hi
      have hs := hstill i ac hi fun h => e h.symm
      by_cases hlt : i < ρ.length
      · rw [List.getElem?_append_left hlt] at hai
        exact (R3.cells i ac as (by rw [List.getElem?_set_ne e]; exact hi) (by rw [List.getElem?_append_left (by lia), List.getElem?_set_ne e]; exact hai)).heads hh hs rfl
      · rw [List.getElem?_append_right (by lia)] at hai
        exact (R3.cells i ac as (by rw [List.getElem?_set_ne e]; exact hi) (by rw [List.getElem?_append_right (by lia), ← hlen]; exact hai)).heads hh hs rfl
end
end
section
open PySem PySem.W PySem.W.X PyProof.Rows PySem.Calls
section
variable {k : Nat} {sc : Scope} {loc : Locs} {cs : List AC}
theorem fn92 (P : Params) : (∃ c d sl, (Kx P).lookup 92 = some ⟨c, d, .func (fdOf P 92), sl⟩) ∧ (fdOf P 92).scope = scA 92 ∧ (fdOf P 92).body = .stmts (bodyA 92) ∧ fbody (fdOf P 92) = bodyA 92 ∧ (fdOf P 92).globals = mainGlobals ∧ (fdOf P 92).builtins = builtinsNs ∧
    (∃ cc oc vs t, (fdOf P 92).code = .ref cc ∧ cc ∉ tabs ∧ (Kx P).lookup cc = some oc ∧ oc.data = .fields vs ∧ vs[1]? = some (.str (fdOf P 92).qualname t)) ∧ ∀ v, bindArgs (fdOf P 92) ⟨[v], []⟩ = pure [(Str.ofString "self", v)] :=
  ⟨⟨_, _, _, rfl⟩, rfl, rfl, rfl, rfl, rfl, ⟨_, _, _, _, rfl, by decide, rfl, rfl, rfl⟩, fun v => by kernel_rfl⟩
theorem cl_maxl {f : Nat} : Cl (k + 1) cs (.ref 92) [.obj f] (.obj cs.length) (cs ++ [.gen f false]) := by
  intro w c ρ loc s vs sc O R V
  refine hideG fun Gq hGq => ?_
  obtain ⟨_, rfl, fa, fr, hfa, rfl⟩ := V.one
  obtain ⟨⟨oc, od, osl, hat⟩, hscp, hbod, hfb, hgl, hbl, ⟨cc, ocd, cvs, t, hcode, hct, hcl, hcd, hc1⟩, hbind⟩ := fn92 w.params
  refine hGq ?_
  clear hGq Gq
  refine wpAny_call (codeAny_call_generator (by have := O.depth; have e : recursionLimit = 1000 := rfl; lia) (R.stat.keep _ _ (c.B.K _ _ hat) (by decide)) rfl (by rw [hscp]; rfl) (by rw [hscp]; rfl) hbod
    ⟨cc, ocd, cvs, t, hcode, R.stat.keep _ _ (c.B.K _ _ hcl) hct, hcd, hc1⟩ ?_)
  rw [hbind]
  refine wpAny_pure ?_
  refine wpAny_newFunctionEnv (by rw [hscp]; decide) (by intro x hx; rw [List.mem_singleton.mp hx, hscp]; rfl) (fun h₀ hns₀ hsb₀ => ?_) (by rw [hscp]; rfl)
  have hk0 : ∀ b o, s.heap.get? b = some o → h₀.get? b = some o := fun b o e => hsb₀.extBut b o (Nat.ne_of_lt (Heap.lt_size e)) (Heap.get?_push_of_some _ e)
  refine ⟨(Stat.lim R.stat).fresh _ hsb₀, ?_⟩
  have hlt : s.heap.objs.size < h₀.objs.size := hns₀.lt
  refine ⟨ρ ++ [[h₀.objs.size, s.heap.objs.size]], R.newCell (as := [h₀.objs.size, s.heap.objs.size]) (ac := .gen f false) (fun b o e => Heap.get?_push_of_some _ (hk0 b o e)) (fun g' gs' e => by obtain ⟨hlt, e'⟩ := Array.getElem?_eq_some_iff.mp e; rw [Array.getElem?_push_lt hlt, e']) (fun y hy => (Array.mem_push.mp hy).elim (R.stat.bare y) fun e => e ▸ rfl) rfl ?_ ?_ ?_, vrep_new R.len⟩
  · intro a ha
    rcases List.mem_cons.mp ha with rfl | ha
    · exact Nat.le_of_lt hlt
    · rw [List.mem_singleton.mp ha]; exact Nat.le_refl _
  · refine List.nodup_cons.mpr ⟨fun h => ?_, List.nodup_cons.mpr ⟨by simp, .nil⟩⟩
    rw [List.mem_singleton.mp h] at hlt
    exact Nat.lt_irrefl _ hlt
  · refine ⟨_, _, s.gens.size, fa, fr, _, _, rfl, ⟨_, _, _, Heap.get?_push_size _ rfl, rfl, rfl, rfl⟩, prefix_get (List.prefix_append _ _) hfa, hns₀.push _, rfl, Array.getElem?_push_size, ?_⟩
    rw [hfb]
    rfl
end
end
section
open PySem PySem.W PySem.W.X PyProof.Rows PySem.Calls
open PySem.Builtin PySem.Builtin.Generator
section
variable {prog : Program} {w : World} {A : Around} {s : Shared} {E : Value → Shared → Prop}
theorem next_gen {a gi : Nat} {gs : GenState} {c₀ : Code} {t₀ : Sem PySem.Fin} {fs₀ : List Frame} {Q : Value → Shared → Prop} (hI : s.heap.IsGen a gi) (hlim : s.heap.NoLimit) (hd : A.depth < recursionLimit) (hg : s.gens[gi]? = some gs)
    (hgs : (gs = .fresh c₀ ∧ t₀ = denote table c₀ ∧ fs₀ = []) ∨ (∃ k₀ l₀ p₀ cl, gs = .suspended k₀ l₀ c₀ p₀ fs₀ cl ∧ t₀ = k₀ (.send .none)))
    (x : SegX (model prog w) A.in1.in1 c₀ t₀ fs₀ (s.setGen gi .running) (fun e s₁ => ∃ v k l c p fs, e = .susp v false l k c p fs ∧ Q v (s₁.setGen gi e.genState))) : wpAny (model prog w) A (call (.builtin "next") [.ref a]) Q E s := by
  refine call_function_entry (by decide +kernel) (by decide +kernel) kdk_entry_next (kdk_args_next _) ?_
  unfold Builtin.«next»
  refine wpAny_bind (m := someArgs "next" 1 2 _) (wpAny_of_eq (a := [Value.ref a]) (by first | rfl | kernel_rfl!) ?_)
  dsimp only
  refine wpAny_bind (wpAny_specialOf (name := Str.ofString "__next__") hI.typeIs slot_gen_next.lookup ?_)
  refine wpAny_ite_split (fun hab => absurd hab (by decide)) (fun _ => ?_)
  refine wpAny_bind (wpAny_callSpecial?_slot (name := Str.ofString "__next__") hI.typeIs slot_gen_next (wpAny_call_entry slot_gen_next hI.typeIs entry_gen_next ?_ (args_gen_next _)))
  unfold Builtin.«generator.__next__» genWake
  refine wpAny_bind (wpAny_pure ?_)
  refine wpAny_bind (wpAny_holding (wpAny_genNumber hI ?_))
  refine wpAny_bind (wpAny_genState hg ?_)
  have fin : ∀ (k : GenResult → Sem PySem.Fin) (QQ : PySem.Fin → Shared → Prop) (EE : Value → Shared → Prop), (∀ v s', Q v s' → wpAny (model prog w) A.in1.in1 (k (.yielded v)) QQ EE s') → wpAny (model prog w) A.in1.in1 (Sem.resume gi (.send .none) [] k) QQ EE s := by
    intro k QQ EE hk
    refine any_resume hg (c₀ := c₀) (t₀ := t₀) (fs₀ := fs₀) ?_ (x.mono fun e s₁ h => ?_)
    · rcases hgs with ⟨h1, h2, h3⟩ | h
      · exact .inl ⟨h1, rfl, h2, h3⟩
      · exact .inr h
    · obtain ⟨v, k', l, c, p, fs, rfl, hq⟩ := h
      exact hk v _ hq
  have hst : gs.status = .fresh ∨ gs.status = .suspended := by
    rcases hgs with ⟨rfl, _⟩ | ⟨_, _, _, _, rfl, _⟩
    · exact .inl rfl
    · exact .inr rfl
  rcases hst with hst | hst
  · rw [hst]
    refine wpAny_bind (wpAny_roomToWake hlim hd ?_)
    refine fin _ _ _ fun v s' hq => ?_
    exact wpAny_pure ⟨v, rfl, wpAny_pure ⟨v, rfl, hq⟩⟩
  · rw [hst]
    refine wpAny_bind (wpAny_roomToWake hlim hd ?_)
    refine fin _ _ _ fun v s' hq => ?_
    exact wpAny_pure ⟨v, rfl, wpAny_pure ⟨v, rfl, hq⟩⟩
end
end
section
open PySem PySem.W PySem.W.X PyProof.Rows PySem.Calls
section
variable {k : Nat} {sc : Scope} {loc : Locs} {cs : List AC}
theorem body92 : ∃ e1 y1 p1 t e2 y2 p2 pw, bodyA 92 = [.Expr (.Yield (some e1) y1) p1, .While t [.Expr (.Yield (some e2) y2) p2] [] pw] ∧
    (∀ (k : Nat) (cs : List AC) (f ai li : Nat) (ml init : Int) (ws : Str) (l : List (Str × Str)), cs[f]? = some (.fm ml ws li ai) → cs[ai]? = some (.acc l init) → (∀ p ∈ l, p.1.length + p.2.length ≤ 1000) → l.length ≤ 1000 → 0 ≤ init ∧ init ≤ 1000 →
      Ev (k + 2) (scA 92) [(Str.ofString "self", .obj f)] cs e1 (.int (ml - (init + accLen l))) cs) ∧
    (∀ (k : Nat) (cs : List AC) (f ai li : Nat) (ml : Int) (ws : Str), cs[f]? = some (.fm ml ws li ai) → Ev k (scA 92) [(Str.ofString "self", .obj f)] cs e2 (.int (ml - ws.length)) cs) ∧
    ∀ (prog : Program) (w : World) (env : Env) (A : Around) (s : Shared) (Q : Bool → Shared → Prop) (E : Value → Shared → Prop), Q true s → wpAny (model prog w) A (isTrue t env (PySem.eval t env)) Q E s := by
  refine ⟨_, _, _, _, _, _, _, _, rfl, ?_, ?_, ?_⟩
  · intro k cs f ai li ml init ws l hf hai hl hn hi
    kl_some
  · intro k cs f ai li ml ws hf
    kl_some
  · intro prog w env A s Q E h
    exact wpAny_isTrue_value (wpAny_Constant_bool (wpAny_truthy_bool h)) rfl
variable {w : World} {c : Cx w}
theorem Cx.OK.gen {A' : Around} {L : Addr} (O : c.OK (k + 1) sc) (h1 : A'.handled = none) (h2 : A'.frames = some (callEnv (fdOf w.params 92) L 92 :: c.env :: c.outer)) (h3 : A'.depth ≤ c.A.depth + 1) (h4 : A'.units ≤ c.A.units + 20) : (c.gen A' L loc).OK k (scA 92) := by
  refine hideG fun Gq hGq => ?_
  obtain ⟨_, hscp, hbod, hfb, hgl, hbl, _, _⟩ := fn92 w.params
  refine hGq ?_
  clear hGq Gq
  refine ⟨hscp, rfl, hgl, hbl, h1, h2, by have := O.depth; show A'.depth + k ≤ 800; lia, by have := O.units; show A'.units + 20 * k ≤ 9000; lia, ?_⟩
  intro e he
  rcases List.mem_cons.mp he with rfl | he
  · exact ⟨O.skind, (c.L, loc), .head _, rfl⟩
  · obtain ⟨h1, p, hp, h2⟩ := O.out e he
    exact ⟨h1, p, List.mem_cons_of_mem _ hp, h2⟩
end
section
variable {k : Nat} {cs : List AC}
theorem cl_next1 {g f ai li : Nat} {ml init : Int} {ws : Str} {l : List (Str × Str)} (hc : cs[g]? = some (.gen f false)) (hf : cs[f]? = some (.fm ml ws li ai)) (hai : cs[ai]? = some (.acc l init)) (hl : ∀ p ∈ l, p.1.length + p.2.length ≤ 1000) (hn : l.length ≤ 1000) (hi : 0 ≤ init ∧ init ≤ 1000)
    (hstill : ∀ j ac, cs[j]? = some ac → j ≠ g → Still ac) : Cl (k + 3) cs (.builtin "next") [.obj g] (.int (ml - (init + accLen l))) (cs.set g (.gen f true)) := by
  intro w c ρ loc s vs sc O R V
  refine hideG fun Gq hGq => ?_
  obtain ⟨_, rfl, a, r, ha, rfl⟩ := V.one
  obtain ⟨a', L, gi, fa, fr, m, gs, e, hI, hfa, hns, hself, hg, hst⟩ := R.cells g _ _ hc ha
  refine hGq ?_
  clear hGq Gq
  cases e
  have hst : gs = .fresh (.func (fbody (fdOf w.params 92)) (callEnv (fdOf w.params 92) L 92)) := hst
  subst hst
  refine hideG fun Gq hGq => ?_
  obtain ⟨e1, y1, p1, t, e2, y2, p2, pw, hb, h1, h2, h3⟩ := body92
  obtain ⟨_, hscp, _, hfb, _⟩ := fn92 w.params
  refine hGq ?_
  clear hGq Gq
  rw [hfb, hb] at hg
  refine next_gen hI R.stat.lim (by have := O.depth; have e : recursionLimit = 1000 := rfl; lia) hg (.inl ⟨rfl, rfl, rfl⟩) ?_
  have hco : (callEnv (fdOf w.params 92) L 92).scope.isCoroutine = false := by show (fdOf w.params 92).scope.isCoroutine = false; rw [hscp]; rfl
  have O2 : (c.gen (c.A.in1.in1.over (.func [.Expr (.Yield (some e1) y1) p1, .While t [.Expr (.Yield (some e2) y2) p2] [] pw] (callEnv (fdOf w.params 92) L 92)) []) L loc).OK (k + 2) (scA 92) := Cx.OK.gen O O.hd (by show (c.A.frames.map _) = _; rw [O.fr]; rfl) (Nat.le_refl _) (by show c.A.units + 1 + 1 + 0 + 3 ≤ c.A.units + 20; lia)
  have hin : interactive (callEnv (fdOf w.params 92) L 92) = false := O2.inter
  refine seg_fresh hco hin ?_
  have hgi : gi < s.gens.size := (Array.getElem?_eq_some_iff.mp hg).1
  refine hideG fun Gq hGq => ?_
  obtain ⟨o, nm, qn, ho, hcls, hdt, hsl⟩ := id hI
  refine hGq ?_
  clear hGq Gq
  have gf : g ≠ f := by rintro rfl; rw [hc] at hf; cases hf
  have ga : g ≠ ai := by rintro rfl; rw [hc] at hai; cases hai
  have R2 := R.intoGen (A' := c.A.in1.in1.over (.func [.Expr (.Yield (some e1) y1) p1, .While t [.Expr (.Yield (some e2) y2) p2] [] pw] (callEnv (fdOf w.params 92) L 92)) []) hc ha hstill ho (by rw [hcls]; simp) hfa hns hself hgi
  refine wpAny_mono (h1 k _ f ai li ml init ws l (by rw [List.getElem?_set_ne gf]; exact hf) (by rw [List.getElem?_set_ne ga]; exact hai) hl hn hi w _ _ _ O2 R2) (fun v' s3 hq => ?_) fun _ _ x => x
  refine hideG fun Gq hGq => ?_
  obtain ⟨ρ3, P3, tv, rfl⟩ := hq
  refine hGq ?_
  clear hGq Gq
  intro p
  refine ⟨_, _, _, _, _, _, rfl, ?_⟩
  obtain ⟨ρ', P', hh⟩ := R.outGen (gs := .suspended (yK e1 y1 p1 (cK [.While t [.Expr (.Yield (some e2) y2) p2] [] pw] (callEnv (fdOf w.params 92) L 92) gK (gH (callEnv (fdOf w.params 92) L 92))) (gH (callEnv (fdOf w.params 92) L 92))) [] (.func [.Expr (.Yield (some e1) y1) p1, .While t [.Expr (.Yield (some e2) y2) p2] [] pw] (callEnv (fdOf w.params 92) L 92)) p [] false) hc ha hstill P3.rep P3.pre P3.tk (fun h e => ⟨o, nm, qn, e, hcls, hdt, hsl⟩) rfl (by rw [hfb, hb]; exact .inl ⟨_, _, _, _, _, _, rfl, rfl⟩)
  exact ⟨ρ', P', tv, rfl⟩
theorem cl_next2 {g f ai li : Nat} {ml : Int} {ws : Str} (hc : cs[g]? = some (.gen f true)) (hf : cs[f]? = some (.fm ml ws li ai))
    (hstill : ∀ j ac, cs[j]? = some ac → j ≠ g → Still ac) : Cl (k + 3) cs (.builtin "next") [.obj g] (.int (ml - ws.length)) (cs.set g (.gen f true)) := by
  intro w c ρ loc s vs sc O R V
  refine hideG fun Gq hGq => ?_
  obtain ⟨_, rfl, a, r, ha, rfl⟩ := V.one
  obtain ⟨a', L, gi, fa, fr, m, gs, e, hI, hfa, hns, hself, hg, hst⟩ := R.cells g _ _ hc ha
  refine hGq ?_
  clear hGq Gq
  cases e
  have hst : GenS1 (callEnv (fdOf w.params 92) L 92) (fbody (fdOf w.params 92)) gs ∨ GenS2 (callEnv (fdOf w.params 92) L 92) (fbody (fdOf w.params 92)) gs := hst
  refine hideG fun Gq hGq => ?_
  obtain ⟨e1, y1, p1, t, e2, y2, p2, pw, hb, h1, h2, h3⟩ := body92
  obtain ⟨_, hscp, _, hfb, _⟩ := fn92 w.params
  refine hGq ?_
  clear hGq Gq
  rw [hfb, hb] at hst
  have hroom : c.A.depth < recursionLimit := by have := O.depth; have e : recursionLimit = 1000 := rfl; lia
  have hco : (callEnv (fdOf w.params 92) L 92).scope.isCoroutine = false := by show (fdOf w.params 92).scope.isCoroutine = false; rw [hscp]; rfl
  have hgi : gi < s.gens.size := (Array.getElem?_eq_some_iff.mp hg).1
  refine hideG fun Gq hGq => ?_
  obtain ⟨o, nm, qn, ho, hcls, hdt, hsl⟩ := id hI
  refine hGq ?_
  clear hGq Gq
  have gf : g ≠ f := by rintro rfl; rw [hc] at hf; cases hf
  have main : ∀ p0, wpAny (MD w) (c.A.in1.in1.over (.whileLoop t [.Expr (.Yield (some e2) y2) p2] [] (callEnv (fdOf w.params 92) L 92)) [wkFrame [.Expr (.Yield (some e1) y1) p1, .While t [.Expr (.Yield (some e2) y2) p2] [] pw] (callEnv (fdOf w.params 92) L 92) p0]) (PySem.eval e2 (callEnv (fdOf w.params 92) L 92))
      (fun v s' => ∀ p, ∃ v' k' l' c' p' fs', End.susp v false [] (yK e2 y2 p2 (cK [] (callEnv (fdOf w.params 92) L 92) (lK t [.Expr (.Yield (some e2) y2) p2] [] (callEnv (fdOf w.params 92) L 92)) (lH (callEnv (fdOf w.params 92) L 92))) (lH (callEnv (fdOf w.params 92) L 92))) (.whileLoop t [.Expr (.Yield (some e2) y2) p2] [] (callEnv (fdOf w.params 92) L 92)) p
          [wkFrame [.Expr (.Yield (some e1) y1) p1, .While t [.Expr (.Yield (some e2) y2) p2] [] pw] (callEnv (fdOf w.params 92) L 92) p0] = .susp v' false l' k' c' p' fs' ∧
        ∃ ρ', Post c ρ s loc (cs.set g (.gen f true)) (s'.setGen gi (End.genState (.susp v false [] (yK e2 y2 p2 (cK [] (callEnv (fdOf w.params 92) L 92) (lK t [.Expr (.Yield (some e2) y2) p2] [] (callEnv (fdOf w.params 92) L 92)) (lH (callEnv (fdOf w.params 92) L 92))) (lH (callEnv (fdOf w.params 92) L 92))) (.whileLoop t [.Expr (.Yield (some e2) y2) p2] [] (callEnv (fdOf w.params 92) L 92)) p
          [wkFrame [.Expr (.Yield (some e1) y1) p1, .While t [.Expr (.Yield (some e2) y2) p2] [] pw] (callEnv (fdOf w.params 92) L 92) p0]))) ρ' ∧ VRep ρ' s'.heap (.int (ml - ws.length)) v') (fun _ _ => False) (s.setGen gi .running) := by
    intro p0
    have O2 : (c.gen (c.A.in1.in1.over (.whileLoop t [.Expr (.Yield (some e2) y2) p2] [] (callEnv (fdOf w.params 92) L 92)) [wkFrame [.Expr (.Yield (some e1) y1) p1, .While t [.Expr (.Yield (some e2) y2) p2] [] pw] (callEnv (fdOf w.params 92) L 92) p0]) L loc).OK (k + 2) (scA 92) := Cx.OK.gen O O.hd (by show (c.A.frames.map _) = _; rw [O.fr]; rfl) (Nat.le_refl _) (by show c.A.units + 1 + 1 + 3 + 0 ≤ c.A.units + 20; lia)
    have R2 := R.intoGen (A' := c.A.in1.in1.over (.whileLoop t [.Expr (.Yield (some e2) y2) p2] [] (callEnv (fdOf w.params 92) L 92)) [wkFrame [.Expr (.Yield (some e1) y1) p1, .While t [.Expr (.Yield (some e2) y2) p2] [] pw] (callEnv (fdOf w.params 92) L 92) p0]) hc ha hstill ho (by rw [hcls]; simp) hfa hns hself hgi
    refine wpAny_mono (h2 (k + 2) _ f ai li ml ws (by rw [List.getElem?_set_ne gf]; exact hf) w _ _ _ O2 R2) (fun v' s3 hq => ?_) fun _ _ x => x
    refine hideG fun Gq hGq => ?_
    obtain ⟨ρ3, P3, tv, rfl⟩ := hq
    refine hGq ?_
    clear hGq Gq
    intro p
    refine ⟨_, _, _, _, _, _, rfl, ?_⟩
    obtain ⟨ρ', P', hh⟩ := R.outGen (gs := .suspended (yK e2 y2 p2 (cK [] (callEnv (fdOf w.params 92) L 92) (lK t [.Expr (.Yield (some e2) y2) p2] [] (callEnv (fdOf w.params 92) L 92)) (lH (callEnv (fdOf w.params 92) L 92))) (lH (callEnv (fdOf w.params 92) L 92))) [] (.whileLoop t [.Expr (.Yield (some e2) y2) p2] [] (callEnv (fdOf w.params 92) L 92)) p
          [wkFrame [.Expr (.Yield (some e1) y1) p1, .While t [.Expr (.Yield (some e2) y2) p2] [] pw] (callEnv (fdOf w.params 92) L 92) p0] false) hc ha hstill P3.rep P3.pre P3.tk (fun h e => ⟨o, nm, qn, e, hcls, hdt, hsl⟩) rfl (by rw [hfb, hb]; exact .inr ⟨_, _, _, _, _, _, _, _, _, rfl, rfl⟩)
    exact ⟨ρ', P', tv, rfl⟩
  have hin : interactive (callEnv (fdOf w.params 92) L 92) = false := by
    have O2 : (c.gen (c.A.in1.in1.over (.func [] (callEnv (fdOf w.params 92) L 92)) []) L loc).OK (k + 2) (scA 92) := Cx.OK.gen O O.hd (by show (c.A.frames.map _) = _; rw [O.fr]; rfl) (Nat.le_refl _) (by show c.A.units + 1 + 1 + 0 + 3 ≤ c.A.units + 20; lia)
    exact O2.inter
  rcases hst with ⟨e1', y1', p1', rest, l, p, hbb, rfl⟩ | ⟨st1, t', e2', y2', p2', pw', l, p, p0, hbb, rfl⟩
  · cases hbb
    refine next_gen hI R.stat.lim hroom hg (.inr ⟨_, _, _, _, rfl, rfl⟩) ?_
    exact seg_second hco hin (fun A s Q E h => h3 _ _ _ A s Q E h) main
  · cases hbb
    refine next_gen hI R.stat.lim hroom hg (.inr ⟨_, _, _, _, rfl, rfl⟩) ?_
    exact seg_third (body := [.Expr (.Yield (some e1) y1) p1, .While t [.Expr (.Yield (some e2) y2) p2] [] pw]) hco hin (fun A s Q E h => h3 _ _ _ A s Q E h) (main p0)
end
end
section
open PySem PySem.W PyProof.Rows PySem.Calls
section
variable {k : Nat} {sc : Scope} {loc : Locs} {cs : List AC}

theorem Rep.strLM {i : Nat} {l : List (Option Str)} {w : World} {c : Cx w} {ρ s} {a : Addr} {r : List Addr} (R : Rep c ρ loc cs s) (hc : cs[i]? = some (.strL l)) (ha : ρ[i]? = some (a :: r)) : ∃ vs n, r = [] ∧ s.heap.get? a = some { cls := .type "list", data := .seq (List.toArray vs) n } ∧ OStrsAre vs l := by
  refine hideG fun Gq hGq => ?_
  obtain ⟨vs, ⟨n, x⟩, y, e⟩ := R.strL hc ha
  refine hGq ?_
  clear hGq Gq
  exact ⟨vs, n, e, x, y⟩
theorem meth_list {i : Nat} {ac : AC} {name : Str} {id : String} (hc : cs[i]? = some ac) (hp : (∃ l, ac = .strL l) ∨ ∃ l, ac = .intL l) (slot : Slot "list" name id) (ty : typeOf (.builtin id) = pure (.type "method_descriptor")) : Meth cs i name (.builtin id) := by
  intro w c ρ loc s a r R ha A pl Q E q
  obtain ⟨vs, n, hl⟩ : ∃ vs n, s.heap.get? a = some { cls := .type "list", data := .seq (List.toArray vs) n } := by
    rcases hp with ⟨l, rfl⟩ | ⟨l, rfl⟩
    · obtain ⟨vs, n, _, h, _⟩ := R.strLM hc ha; exact ⟨vs, n, h⟩
    · obtain ⟨vs, ⟨n, x⟩, y, e⟩ := R.intL hc ha; exact ⟨vs, n, x⟩
  exact getMethod_builtin ⟨_, hl, rfl⟩ PySem.F.plainAttrs_list slot ty (fun b e => by cases e; exact ⟨_, hl, rfl⟩) q
theorem m_lpop {i l} (hc : cs[i]? = some (.strL l)) : Meth cs i "pop" (.builtin "list.pop") := meth_list hc (.inl ⟨_, rfl⟩) PySem.F.slot_list_pop PySem.F.type_list_pop
theorem m_lappS {i l} (hc : cs[i]? = some (.strL l)) : Meth cs i "append" (.builtin "list.append") := meth_list hc (.inl ⟨_, rfl⟩) PySem.F.slot_list_append PySem.F.type_list_append
theorem m_lappI {i l} (hc : cs[i]? = some (.intL l)) : Meth cs i "append" (.builtin "list.append") := meth_list hc (.inr ⟨_, rfl⟩) PySem.F.slot_list_append PySem.F.type_list_append

theorem OStrsAre.append {vs us : List Value} {l m : List (Option Str)} (x : OStrsAre vs l) (y : OStrsAre us m) : OStrsAre (vs ++ us) (l ++ m) := by
  induction x with
  | nil => exact y
  | some a t _ ih => exact .some a t ih
  | none _ ih => exact .none ih
theorem ostrs_one {ρ h o v} (x : VRep ρ h (ofO o) v) : OStrsAre [v] [o] := by
  cases o with
  | none => cases x; exact .none .nil
  | some y => obtain ⟨t, rfl⟩ := x; exact .some _ _ .nil
theorem ints_append {vs us : List Value} {l m : List Int} (x : IntsAre vs l) (y : IntsAre us m) : IntsAre (vs ++ us) (l ++ m) := by
  induction x with
  | nil => exact y
  | cons a t _ ih => exact .cons a t ih
theorem list_upd {w : World} {c : Cx w} {ρ s} {i : Nat} {ac : AC} {a : Addr} {vs : List Value} {n : Nat} {f : Array Value → Array Value} (R : Rep c ρ loc cs s) (ha : ρ[i]? = some [a])
    (ho : s.heap.get? a = some { cls := .type "list", data := .seq vs.toArray n }) (hn : ∀ n', (s.heap.update a (Obj.mapSeq f)).get? a = some { cls := .type "list", data := .seq (f vs.toArray) n' } → CellAt w.params ρ { s with heap := s.heap.update a (Obj.mapSeq f) } ac [a]) :
    Post c ρ s loc (cs.set i ac) { s with heap := s.heap.update a (Obj.mapSeq f) } ρ := by
  have hat : (s.heap.update a (Obj.mapSeq f)).get? a = some (Obj.mapSeq f { cls := .type "list", data := .seq vs.toArray n }) := Heap.get?_update_self _ ho rfl
  obtain ⟨n', en⟩ : ∃ n', Obj.mapSeq f { cls := .type "list", data := .seq vs.toArray n } = { cls := .type "list", data := .seq (f vs.toArray) n' } := ⟨_, rfl⟩
  exact R.setCell (s' := { s with heap := s.heap.update a (Obj.mapSeq f) }) ha (.head _) ho (by simp) (Heap.SameBut.update ..).extBut (fun _ _ e => e) R.stat.bare rfl (hn n' (by rw [hat, en]))

theorem cl_lappO {i : Nat} {l : List (Option Str)} {o : Option Str} (hc : cs[i]? = some (.strL l)) (hl : l.length ≤ 100000) : Cl k cs (.builtin "list.append") [.obj i, ofO o] .none (cs.set i (.strL (l ++ [o]))) := by
  intro w c ρ loc s vs sc O R V
  refine hideG fun Gq hGq => ?_
  obtain ⟨_, v, rfl, ⟨a, r, ha, rfl⟩, hv⟩ := V.two
  obtain ⟨us, n, rfl, ho, hu⟩ := R.strLM hc ha
  refine hGq ?_
  clear hGq Gq
  have hlen := hu.length
  refine wpAny_call_entry PySem.F.slot_list_append ⟨_, ho, rfl⟩ PySem.F.entry_list_append ?_ (PySem.F.args_list_append_2 _ _)
  show wpAny _ _ (updateSeq a (·.push v) >>= fun _ => ret .none) _ _ s
  refine wpAny_bind (wpAny_updateSeq ho rfl (wpAny_pure ?_) (by simp [sizeLine_eq]; lia) (by simp [sizeLine_eq]; lia))
  exact ⟨_, rfl, ρ, list_upd R ha ho fun n' e => ⟨a, us ++ [v], rfl, ⟨n', by rw [e]; simp⟩, hu.append (ostrs_one hv)⟩, rfl⟩
theorem cl_lappS {i : Nat} {l : List (Option Str)} {x : Str} (hc : cs[i]? = some (.strL l)) (hl : l.length ≤ 100000) : Cl k cs (.builtin "list.append") [.obj i, .str x] .none (cs.set i (.strL (l ++ [some x]))) := cl_lappO (o := some x) hc hl
theorem cl_lappN {i : Nat} {l : List (Option Str)} (hc : cs[i]? = some (.strL l)) (hl : l.length ≤ 100000) : Cl k cs (.builtin "list.append") [.obj i, .none] .none (cs.set i (.strL (l ++ [none]))) := cl_lappO (o := none) hc hl
theorem cl_lappI {i : Nat} {l : List Int} {x : Int} (hc : cs[i]? = some (.intL l)) (hl : l.length ≤ 100000) : Cl k cs (.builtin "list.append") [.obj i, .int x] .none (cs.set i (.intL (l ++ [x]))) := by
  intro w c ρ loc s vs sc O R V
  refine hideG fun Gq hGq => ?_
  obtain ⟨_, v, rfl, ⟨a, r, ha, rfl⟩, t, rfl⟩ := V.two
  obtain ⟨us, ⟨n, ho⟩, hu, rfl⟩ := R.intL hc ha
  refine hGq ?_
  clear hGq Gq
  have hlen := hu.length
  refine wpAny_call_entry PySem.F.slot_list_append ⟨_, ho, rfl⟩ PySem.F.entry_list_append ?_ (PySem.F.args_list_append_2 _ _)
  show wpAny _ _ (updateSeq a (·.push (.int x t)) >>= fun _ => ret .none) _ _ s
  refine wpAny_bind (wpAny_updateSeq ho rfl (wpAny_pure ?_) (by simp [sizeLine_eq]; lia) (by simp [sizeLine_eq]; lia))
  exact ⟨_, rfl, ρ, list_upd R ha ho fun n' e => ⟨a, us ++ [.int x t], rfl, ⟨n', by rw [e]; simp⟩, ints_append hu (.cons _ _ .nil)⟩, rfl⟩

theorem ostrs_cons {vs : List Value} {o : Option Str} {l : List (Option Str)} (x : OStrsAre vs (o :: l)) : ∃ v us, vs = v :: us ∧ OStrsAre us l ∧ ∀ ρ h, VRep ρ h (ofO o) v := by
  cases x with
  | some y t h => exact ⟨_, _, rfl, h, fun _ _ => ⟨t, rfl⟩⟩
  | none h => exact ⟨_, _, rfl, h, fun _ _ => rfl⟩
theorem ostrs_snoc {vs : List Value} {o : Option Str} {l : List (Option Str)} (x : OStrsAre vs (l ++ [o])) : ∃ v us, vs = us ++ [v] ∧ OStrsAre us l ∧ ∀ ρ h, VRep ρ h (ofO o) v := by
  induction l generalizing vs with
  | nil =>
    refine hideG fun Gq hGq => ?_
    obtain ⟨v, us, rfl, h, q⟩ := ostrs_cons x
    refine hGq ?_
    clear hGq Gq
    cases h
    exact ⟨v, [], rfl, .nil, q⟩
  | cons y l ih =>
    cases x with
    | some a t h =>
      refine hideG fun Gq hGq => ?_
      obtain ⟨v, us, rfl, h', q⟩ := ih h
      refine hGq ?_
      clear hGq Gq
      exact ⟨v, _ :: us, rfl, .some _ _ h', q⟩
    | none h =>
      refine hideG fun Gq hGq => ?_
      obtain ⟨v, us, rfl, h', q⟩ := ih h
      refine hGq ?_
      clear hGq Gq
      exact ⟨v, _ :: us, rfl, .none h', q⟩
theorem fits_0 : Builtin.List.listFitsIndex 0 = true := by decide +kernel
theorem cl_lpop {i : Nat} {l : List (Option Str)} {o : Option Str} (hc : cs[i]? = some (.strL (l ++ [o]))) (hl : l.length ≤ 100000) : Cl k cs (.builtin "list.pop") [.obj i] (ofO o) (cs.set i (.strL l)) := by
  intro w c ρ loc s vs sc O R V
  refine hideG fun Gq hGq => ?_
  obtain ⟨_, rfl, a, r, ha, rfl⟩ := V.one
  obtain ⟨us, n, rfl, ho, hu⟩ := R.strLM hc ha
  obtain ⟨v, us, rfl, hu, hv⟩ := ostrs_snoc hu
  refine hGq ?_
  clear hGq Gq
  have hlen := hu.length
  refine wpAny_call_entry PySem.F.slot_list_pop ⟨_, ho, rfl⟩ PySem.F.entry_list_pop ?_ (PySem.F.args_list_pop_1 _)
  have hk : seqIndex? (-1) (us ++ [v]).toArray.size = some us.length := by
    rw [seqIndex_neg (by lia) (by simp; lia)]; simp; lia
  unfold Builtin.«list.pop»
  repeat (first | (with_reducible refine wpAny_listItems ho rfl ?_) | (rw [fits_neg1]) | (rw [hk]) | wp_step | dsimp only)
  have hget : (us ++ [v]).toArray[us.length]? = some v := by simp
  simp only [Option.bind_some, hget, Option.map_some]
  show wpAny _ _ (updateSeq a (fun x => x.eraseIdxIfInBounds us.length) >>= fun _ => ret v) _ _ s
  have erL : (us ++ [v]).toArray.eraseIdxIfInBounds us.length = us.toArray := by rw [← Array.toList_inj, erase_last]
  refine wpAny_bind (wpAny_updateSeq ho rfl (wpAny_pure ?_) (by simp [sizeLine_eq]; lia) (by have := erase_last us v; have h2 := congrArg List.length this; simp only [Array.length_toList] at h2; rw [h2, sizeLine_eq]; lia))
  refine ⟨_, rfl, ρ, list_upd R ha ho fun n' e => ⟨a, us, rfl, ⟨n', by rw [e, erL]⟩, hu⟩, hv _ _⟩
theorem cl_lpop0 {i : Nat} {l : List (Option Str)} {o : Option Str} (hc : cs[i]? = some (.strL (o :: l))) (hl : l.length ≤ 100000) : Cl k cs (.builtin "list.pop") [.obj i, .int 0] (ofO o) (cs.set i (.strL l)) := by
  intro w c ρ loc s vs sc O R V
  refine hideG fun Gq hGq => ?_
  obtain ⟨_, _, rfl, ⟨a, r, ha, rfl⟩, t, rfl⟩ := V.two
  obtain ⟨us, n, rfl, ho, hu⟩ := R.strLM hc ha
  obtain ⟨v, us, rfl, hu, hv⟩ := ostrs_cons hu
  refine hGq ?_
  clear hGq Gq
  have hlen := hu.length
  refine wpAny_call_entry PySem.F.slot_list_pop ⟨_, ho, rfl⟩ PySem.F.entry_list_pop ?_ (PySem.F.args_list_pop_2 _ _)
  have hk : seqIndex? 0 (v :: us).toArray.size = some 0 := by
    rw [seqIndex_nat (by lia) (by simp <;> lia)]; try rfl
  unfold Builtin.«list.pop»
  repeat (first | (with_reducible refine wpAny_listItems ho rfl ?_) | (rw [fits_0]) | (rw [hk]) | wp_step | dsimp only)
  have er : ((v :: us).toArray.eraseIdxIfInBounds 0) = us.toArray := by
    rw [Array.eraseIdxIfInBounds]; simp
  obtain ⟨n', en⟩ : ∃ n', Obj.mapSeq (fun x => x.eraseIdxIfInBounds 0) { cls := .type "list", data := .seq (v :: us).toArray n } = { cls := .type "list", data := .seq us.toArray n' } := by
    obtain ⟨n', e⟩ : ∃ n', Obj.mapSeq (fun x => x.eraseIdxIfInBounds 0) { cls := .type "list", data := .seq (v :: us).toArray n } = { cls := .type "list", data := .seq ((v :: us).toArray.eraseIdxIfInBounds 0) n' } := ⟨_, rfl⟩
    exact ⟨n', by rw [e, er]⟩
  rw [en, pastItsLine_seq (by simp [sizeLine_eq]; lia)]
  refine wpAny_pure (wpAny_pure ?_)
  exact ⟨_, rfl, ρ, list_upd R ha ho fun n' e => ⟨a, us, rfl, ⟨n', by rw [e, er]⟩, hu⟩, hv _ _⟩
end
end
section
open PySem PySem.W PyProof.Rows PySem.Calls
section
variable {w : World} {c : Cx w} {ρ : List (List Addr)} {loc : Locs} {cs : List AC} {s s' : Shared} {k : Nat} {sc : Scope}

theorem Rep.slots (R : Rep c ρ loc cs s) {h' : Heap} {tk : Tok} (hB : ∀ b o, b ∉ (c.L :: c.fs.map (·.1)) → s.heap.get? b = some o → h'.get? b = some o) (hU : s.heap.UpToSlots h') : Post c ρ s loc cs { s with heap := h', toks := tk } ρ := by
  have tk0 : TK s.heap h' := fun a vs x => by
    refine hideG fun Gq hGq => ?_
    obtain ⟨o, ho, hc, n, hd⟩ := x
    obtain ⟨sl, e⟩ := hU a o ho fun us q => by rw [hd] at q; cases q
    refine hGq ?_
    clear hGq Gq
    exact ⟨_, e, hc, n, hd⟩
  have hfr : ∀ a ∈ c.L :: c.fs.map (·.1), c.B.h.get? a = none ∧ a ∉ tabs := fun a ha => R.fresh a (by
    rcases List.mem_cons.mp ha with rfl | ha
    · exact .head _
    · exact .tail _ (List.mem_append_left _ (List.mem_append_left _ ha)))
  have nd := R.apart
  rw [List.nodup_cons, List.nodup_append] at nd
  refine hideG fun Gq hGq => ?_
  obtain ⟨n1, n2, n3, n4⟩ := nd
  refine hGq ?_
  clear hGq Gq
  have nd2 := n2
  unfold Cx.own at nd2
  rw [List.nodup_append] at nd2
  refine ⟨List.prefix_refl _, tk0, ⟨⟨fun b o e n => hB b o (fun hm => by rw [(hfr b hm).1] at e; cases e) (R.stat.keep b o e n), fun b hb => ?_, R.stat.bare, R.stat.os⟩, ?_, ?_, ?_, R.len, ?_, R.apart, R.fresh⟩⟩
  · obtain ⟨vs, e, te⟩ := R.stat.tab b hb
    exact ⟨vs, hB b _ (fun hm => (hfr b hm).2 hb) e, te⟩
  · exact R.fr.mono (List.prefix_refl _) tk0 fun _ n => hU.ns n
  · exact fun p hp => (R.frs p hp).mono (List.prefix_refl _) tk0 fun _ n => hU.ns n
  · intro p hp
    refine hB _ _ (fun hm => ?_) (R.frz p hp)
    rcases List.mem_cons.mp hm with e | hm
    · exact n1 (List.mem_append_left _ (List.mem_append_right _ (e ▸ List.mem_map_of_mem hp)))
    · exact nd2.2.2 _ hm _ (List.mem_map_of_mem hp) rfl
  · intro i ac as hi ha
    refine (R.cells i ac as hi ha).mono (List.prefix_refl _) tk0 (fun a hm o e => hB a o (fun hm' => ?_) e) fun _ _ e => e
    have hf := getElem?_mem_flatten ha hm
    rcases List.mem_cons.mp hm' with rfl | hm'
    · exact n1 (List.mem_append_right _ hf)
    · exact n4 _ (List.mem_append_left _ hm') _ hf rfl

theorem funFrames_of {h B : Heap} (hB : ∀ a ∈ c.L :: c.fs.map (·.1), B.get? a = none) (hU : s.heap.UpToSlots h) (O : c.OK k sc) (R : Rep c ρ loc cs s) : h.FunFrames B (c.env :: c.outer) := by
  have key : ∀ p ∈ (c.L, loc) :: c.fs, ∃ o, h.get? p.1 = some o ∧ ∀ vs, o.data ≠ .fields vs := by
    intro p hp
    have hns : ∃ m, s.heap.Ns p.1 m := by
      rcases List.mem_cons.mp hp with rfl | hp
      · obtain ⟨m, n, _⟩ := R.fr; exact ⟨m, n⟩
      · obtain ⟨m, n, _⟩ := R.frs p hp; exact ⟨m, n⟩
    refine hideG fun Gq hGq => ?_
    obtain ⟨m, n⟩ := hns
    obtain ⟨o, es, ep, ho, hd, _⟩ := hU.ns n
    refine hGq ?_
    clear hGq Gq
    exact ⟨o, ho, fun vs q => by rw [hd] at q; cases q⟩
  refine ⟨by rw [O.skind]; decide, ?_, ?_⟩
  · obtain ⟨o, ho, hn⟩ := key _ (.head _)
    exact ⟨c.L, o, rfl, hB _ (.head _), ho, hn⟩
  · have out := O.out
    revert out
    generalize c.outer = l
    intro out
    induction l with
    | nil => trivial
    | cons e l ih =>
      refine hideG fun Gq hGq => ?_
      obtain ⟨hk, p, hp, hf⟩ := out e (.head _)
      obtain ⟨o, ho, hn⟩ := key p (.tail _ hp)
      refine hGq ?_
      clear hGq Gq
      exact ⟨by rw [hk]; decide, ⟨p.1, o, hf, hB _ (.tail _ (List.mem_map_of_mem hp)), ho, hn⟩, ih fun e' he' => out e' (.tail _ he')⟩

theorem gl_IndexError : Gl "IndexError" (.type "IndexError") := gl_blt (by intro P; kernel_rfl) (by intro P; kernel_rfl)

theorem caught_ret {e : Addr} {h1 : Heap} {tk : Tok} {np rp hp : Pos} {Q : Flow → Shared → Prop} {rest : List ExceptHandler} (O : c.OK k sc) (R : Rep c ρ loc cs s) (hx : Heap.NewExc s.heap h1 e "IndexError") (hix : sc.names.lookup (Str.ofString "IndexError") = some .globalImplicit)
    (hq : ∀ h' tk', Post c ρ s loc cs { s with heap := h', toks := tk' } ρ → Q (.ret .none) { s with heap := h', toks := tk' }) :
    wpAny (MD w) c.A (noteFrame (.ref e) c.env) (fun _ s₂ => wpAny (MD w) c.A (setFlight (.ref e) none) (fun _ s₃ => wpAny (MD w) c.A (handleBy (.ref e) c.env (.ExceptHandler (some (.Name (Str.ofString "IndexError") np)) none [.Return none rp] hp :: rest)) Q (fun _ _ => False) s₃) (fun _ _ => False) s₂) (fun _ _ => False) { s with heap := h1, toks := tk } := by
  refine hideG fun Gq hGq => ?_
  obtain ⟨ob, t, he, hcls, hd⟩ := hx.there
  refine hGq ?_
  clear hGq Gq
  let B := hideAll s.heap (c.L :: c.fs.map (·.1))
  have hBn : ∀ a ∈ c.L :: c.fs.map (·.1), B.get? a = none := fun a ha => hideAll_none _ ha
  have hBk : ∀ b o, B.get? b = some o → s.heap.get? b = some o := fun b o q => of_hideAll _ q
  have hBk' : ∀ b o, b ∉ (c.L :: c.fs.map (·.1)) → s.heap.get? b = some o → B.get? b = some o := fun b o hn q => hideAll_get _ q hn
  have U1 : s.heap.UpToSlots h1 := Heap.UpToSlots.of_keeps hx.keeps
  have FF := funFrames_of hBn U1 O R
  have hf : c.env.frame = some c.L := rfl
  unfold noteFrame
  simp only [hf]
  refine wpAny_bind (wpAny_field he hd (x := .none) rfl ?_)
  rw [if_neg (by decide)]
  have hBe : B.get? e = none := by
    cases q : B.get? e with
    | none => rfl
    | some o => have := hBk e o q; rw [hx.new] at this; cases this
  refine wpAny_entryW (base := B) (a0 := t) (s := { s with heap := h1, toks := tk }) O.fr FF hf he (fun b o q => hx.keeps b o (hBk b o q)) hBe hd (by simp) rfl fun h2 hN => ?_
  refine hideG fun Gq hGq => ?_
  obtain ⟨k1, k2, k3, k4⟩ := hN
  refine hGq ?_
  clear hGq Gq
  refine wpAny_setFlight_noneW k1 k2 k3 fun h3 x1 x2 x3 x4 => ?_
  have U3 : h2.UpToSlots h3 := fun b o hb hn => ⟨o.slots, x4 b o hb hn⟩
  obtain ⟨ob3, hob3, hobc3⟩ := x3.at.there
  have U13 : s.heap.UpToSlots h3 := (U1.trans k4).trans U3
  have P3 : Post c ρ s loc cs { s with heap := h3, toks := tk } ρ := R.slots (fun b o hn q => x1 b o (hBk' b o hn q)) U13
  refine wpAny_handleBy_builtin (X := "IndexError") (T := "IndexError") (b := true) PySem.F.isExc_IndexError PySem.F.notTuple_IndexError (by rw [isSubtype_type]; kernel_rfl)
    (name_gl (B := c.B) gl_IndexError O.skind (by rw [O.kindOf]; exact hix) O.globals O.builtins (P3.rep.stat.ns c.B.ng (by decide)) (P3.rep.stat.ns c.B.nb (by decide)) rfl ⟨rfl, ⟨ob3, hob3, hobc3.trans hcls⟩, ?_⟩)
  rw [if_pos rfl]
  refine wpAny_setFlight_noneW x1 x2 x3.at fun h4 y1 y2 y3 y4 => ?_
  have U4 : h3.UpToSlots h4 := fun b o hb hn => ⟨o.slots, y4 b o hb hn⟩
  have P4 : Post c ρ s loc cs { s with heap := h4, toks := tk } ρ := R.slots (fun b o hn q => y1 b o (hBk' b o hn q)) (U13.trans U4)
  exact wpAny_execs_cons (wpAny_Return_none (hq _ _ P4))

theorem lpop_raise {a : Addr} {n : Nat} {Q : Value → Shared → Prop} {E : Value → Shared → Prop} {A : Around} (hh : A.handled = none) (ho : s.heap.get? a = some { cls := .type "list", data := .seq #[] n })
    (h : ∀ h' tk e, Heap.NewExc s.heap h' e "IndexError" → E (.ref e) { s with heap := h', toks := tk }) : wpAny (MD w) A (call (.builtin "list.pop") [.ref a]) Q E s := by
  refine call_meets PySem.F.slot_list_pop ⟨_, ho, rfl⟩ PySem.F.entry_list_pop (PySem.F.args_list_pop_1 _) (PySem.AutoSeq1.list_pop_list_0 a #[] n rfl) ?_
  exact ⟨ho, hh, h⟩
end
section
variable {k : Nat} {sc : Scope} {loc : Locs} {cs : List AC}
theorem ex_tryOK {body : List Stmt} {h₀ : ExceptHandler} {hs : List ExceptHandler} {p : Pos} {loc1 : Locs} {cs1 : List AC} (h : Exs k sc loc cs body .next loc1 cs1) : Ex k sc loc cs (.Try body (h₀ :: hs) [] [] p) .next loc1 cs1 := by
  intro w c ρ s O R
  refine wpAny_Try_except (wpAny_mono (h w c ρ s O R) (fun f s1 hq => ?_) fun _ _ x => x.elim)
  obtain ⟨ρ1, P1, rfl⟩ := hq
  exact wpAny_execs_nil ⟨ρ1, P1, rfl⟩
theorem ex_tryPop {x y : Str} {xp yp ap cp sp np rp hp p : Pos} {i : Nat} (hy : Ev k sc loc cs (.Name y yp) (.obj i) cs) (hc : cs[i]? = some (.strL [])) (hix : sc.names.lookup (Str.ofString "IndexError") = some .globalImplicit) {pl : Env → Sem Bool}
    (he : ∀ env, eval (.Call (.Attribute (.Name y yp) "pop" ap) [] [] cp) env = (do
      let ov ← eval (.Name y yp) env
      standAt ap.atName
      let (f, first) ← holding [ov] (getMethod ov "pop" (pl env))
      callWith cp f first (backTo cp (starEach [] env)) (backToKw cp (keywordEach [] env))))
    (hsw : ∀ env, swapsWith (.Call (.Attribute (.Name y yp) "pop" ap) [] [] cp) (some (.Name x xp)) sp.line env = pure false) :
    Ex k sc loc cs (.Try [.Assign [.Name x xp] (.Call (.Attribute (.Name y yp) "pop" ap) [] [] cp) sp] [.ExceptHandler (some (.Name (Str.ofString "IndexError") np)) none [.Return none rp] hp] [] [] p) (.ret .none) loc cs := by
  intro w c ρ s O R
  refine wpAny_Try_except (wpAny_execs_cons (wpAny_Assign_Name (methodCall_KW (pl := pl c.env) (wpAny_mono (hy w c ρ s O R) (fun ov s1 hq => ?_) fun _ _ x => x.elim) (he _)) (hsw _)))
  refine hideG fun Gq hGq => ?_
  obtain ⟨ρ1, P1, a, r, ha, rfl⟩ := hq
  refine hGq ?_
  clear hGq Gq
  refine m_lpop hc w c ρ1 loc s1 a r P1.rep ha c.A _ _ _ ?_
  refine callWith_builtin rfl (wpAny_callArgs (args := []) (wpAny_items_nil ?_) rfl)
  refine hideG fun Gq hGq => ?_
  obtain ⟨us, n, rfl, ho, hu⟩ := P1.rep.strLM hc ha
  refine hGq ?_
  clear hGq Gq
  cases hu
  refine lpop_raise O.hd ho fun h' tk e hx => ?_
  exact caught_ret O P1.rep hx hix fun h'' tk' P2 => ⟨ρ1, P1.trans P2, _, rfl, rfl⟩
end
end
section
open PySem PySem.W PyProof.Rows PySem.Calls
open PySem.Builtin PySem.Builtin.ObjectAttr
theorem slot_fun_sa : Slot "function" "__setattr__" "object.__setattr__" := .of (owner := "object") (n := "__setattr__") (by rw [typeLookup_type, builtinLookup_eq_fast]; kernel_rfl) (by decide +kernel) (by decide +kernel) (by decide +kernel)
  (by first | exact .inl (by decide +kernel) | exact .inr (by decide +kernel)) (by rw [isSubtype_type]; kernel_rfl)
theorem mro_fun : mroOf (.type "function") = pure [.type "function", .type "object"] := by rw [mroOf_type]; kernel_rfl
theorem refuse_fun (self : Value) : refuseLoop self "__setattr__" [.type "function", .type "object"] = pure () := by
  kernel_rfl
theorem fn_no1 : typeLookup (.type "function") (Str.ofString "header_encoding") = pure none := by rw [typeLookup_type, builtinLookup_eq_fast]; kernel_rfl
theorem fn_no2 : typeLookup (.type "function") (Str.ofString "header_encode_lines") = pure none := by rw [typeLookup_type, builtinLookup_eq_fast]; kernel_rfl
section
variable {prog : Program} {w : World} {A : Around} {E : Value → Shared → Prop} {h : Heap} {g : Array GenState} {dr : Drawn} {t : Nat} {os : OsState}
theorem store_tail {d : Addr} {es : List DictEntry} {kv : List (Str × Value)} {n : Nat} {name : Str} {v : Value} {tk : Tok} {Q : PySem.Fin → Shared → Prop}
    (hd : h.get? d = some { cls := .type "dict", data := .dict es.toArray n }) (hes : All2 (EntOK w.params) es kv) (hn : ∀ p ∈ kv, p.1 ≠ name) (hlen : es.length ≤ 100)
    (hq : ∀ (h' : Heap) (t' : Nat) (tk' : Tok), Heap.ExtBut d h h' → h'.get? d = some { cls := .type "dict", data := .dict (es ++ [(⟨PyData.keyHash w.params name, .str name tk', v⟩ : DictEntry)]).toArray (n + 1) } → Q (.done (.ret .none)) ⟨h', g, dr, t', os⟩) :
    wpAny (model prog w) A (storeInDict d (.str name tk) name v) Q E ⟨h, g, dr, t, os⟩ := by
  unfold storeInDict newKeyGuard
  refine wpAny_bind (wpAny_pure (wpAny_bind ?_))
  unfold nsSet
  refine wpAny_bind (wpAny_bind (wpAny_askSetting (wpAny_pure (wpAny_bind (wpAny_mkText (wpAny_bind (wpAny_loadPart hd ?_)))))))
  dsimp only
  have hr : es.toArray.any (·.refKey) = false := by
    rw [Array.any_eq_false']
    intro x hx
    have := ent_ref hes x (by simpa using hx)
    simp [this]
  rw [if_neg (by rw [aRefKeyMayBeTheName_at, hr]; simp)]
  refine wpAny_updatePart hd ?_
  have D' := Heap.get?_update_self (f := Obj.putName name (PyData.keyHash w.params name) (.str name t) v) hd (by rw [put_new hes hn]; rfl)
  rw [put_new hes hn] at D'
  refine wpAny_bind (wpAny_lookBehind D' (pastItsLine_dict (by simp [sizeLine_eq]; lia)) ?_)
  exact wpAny_pure (hq _ _ _ (Heap.SameBut.update ..).extBut D')
theorem fun_setattr {f : Addr} {o : Obj} {name : Str} {v : Value} {Q : Unit → Shared → Prop} (ho : h.get? f = some o) (hc : o.cls = .type "function") (hno : typeLookup (.type "function") name = pure none)
    (hd : ∀ (Q' : Option Addr → Shared → Prop) (A' : Around) t', (∀ d h', (∀ tk (QQ : PySem.Fin → Shared → Prop), (∀ h'' t'', Q () ⟨h'', g, dr, t'', os⟩ → QQ (.done (.ret .none)) ⟨h'', g, dr, t'', os⟩) → wpAny (model prog w) A' (storeInDict d (.str name tk) name v) QQ E ⟨h', g, dr, t', os⟩) → Q' (some d) ⟨h', g, dr, t', os⟩) →
      wpAny (model prog w) A' (instanceDict f true) Q' E ⟨h, g, dr, t', os⟩) : wpAny (model prog w) A (setAttr (.ref f) name v) Q E ⟨h, g, dr, t, os⟩ := by
  have hT : ∀ t, (⟨h, g, dr, t, os⟩ : Shared).TypeIs (.ref f) "function" := fun t => ⟨_, ho, hc⟩
  unfold setAttr
  refine wpAny_bind (wpAny_mkText (wpAny_bind (wpAny_callSpecial?_slot (name := Str.ofString "__setattr__") (hT _) slot_fun_sa (wpAny_call_entry slot_fun_sa (hT _) PySem.F.store_object.entry ?_ (PySem.F.store_object.args _ _ _)))))
  rw [osa_eq, refuse_eq]
  refine wpAny_bind (wpAny_bind (wpAny_typeOf (hT _) (wpAny_bind (wpAny_of_eq mro_fun ?_))))
  rw [refuse_fun]
  refine wpAny_pure (wpAny_bind (wpAny_typeOf (hT _) (wpAny_bind (wpAny_of_eq hno (wpAny_bind (wpAny_pure ?_))))))
  dsimp only
  unfold storeInOwnDict ownDictForStores
  refine wpAny_bind (wpAny_pure ?_)
  show wpAny _ _ (instanceDict f true >>= _) _ _ _
  refine wpAny_bind (hd _ _ _ fun d h' hs => ?_)
  exact hs _ _ fun h'' t'' q => ⟨_, rfl, wpAny_pure q⟩
theorem fun_set1 {f : Addr} {fd : FuncData} {name : Str} {v : Value} {Q : Unit → Shared → Prop} (ho : h.get? f = some { cls := .type "function", data := .func fd }) (hno : typeLookup (.type "function") name = pure none)
    (hq : ∀ h' t' tk', Heap.ExtBut f h h' → h'.get? f = some { cls := .type "function", dict := some h.objs.size, data := .func fd } → h'.get? h.objs.size = some { cls := .type "dict", data := .dict #[(⟨PyData.keyHash w.params name, .str name tk', v⟩ : DictEntry)] 1 } → Q () ⟨h', g, dr, t', os⟩) :
    wpAny (model prog w) A (setAttr (.ref f) name v) Q E ⟨h, g, dr, t, os⟩ := by
  refine fun_setattr ho rfl hno fun Q' A' t' k => ?_
  have hlt := Heap.lt_size ho
  unfold instanceDict
  repeat (first | (with_reducible refine wpAny_loadPart ho ?_) | wp_step | dsimp only)
  have ho1 : (h.push { cls := .type "dict", data := .dict #[] }).get? f = some { cls := .type "function", data := .func fd } := Heap.get?_push_of_some _ ho
  have ho2 := Heap.get?_update_self (f := fun o => { cls := o.cls, dict := some h.objs.size, data := o.data, slots := o.slots }) ho1 rfl
  have hx1 : Heap.ExtBut f (h.push { cls := .type "dict", data := .dict #[] }) ((h.push { cls := .type "dict", data := .dict #[] }).update f fun o => { cls := o.cls, dict := some h.objs.size, data := o.data, slots := o.slots }) := (Heap.SameBut.update ..).extBut
  have hne : h.objs.size ≠ f := fun e => Nat.lt_irrefl _ (e ▸ hlt)
  have hd2 := hx1 h.objs.size _ hne (Heap.get?_push_size h (o := { cls := .type "dict", data := .dict #[] }) rfl)
  refine k _ _ fun tk QQ hQQ => store_tail (es := []) (kv := []) hd2 .nil (fun p hp => by cases hp) (by decide) fun h'' t'' tk'' hx2 hd3 => hQQ _ _ (hq _ _ tk'' ?_ (hx2 _ _ hne.symm ho2) hd3)
  intro b o hb e
  refine hx2 b o (fun e' => ?_) (hx1 b o hb (Heap.get?_push_of_some _ e))
  subst e'
  exact Nat.lt_irrefl _ (Heap.lt_size e)
theorem fun_set2 {f d : Addr} {fd : FuncData} {es : List DictEntry} {kv : List (Str × Value)} {n : Nat} {name : Str} {v : Value} {Q : Unit → Shared → Prop} (ho : h.get? f = some { cls := .type "function", dict := some d, data := .func fd }) (hno : typeLookup (.type "function") name = pure none)
    (hd : h.get? d = some { cls := .type "dict", data := .dict es.toArray n }) (hes : All2 (EntOK w.params) es kv) (hn : ∀ p ∈ kv, p.1 ≠ name) (hlen : es.length ≤ 100)
    (hq : ∀ (h' : Heap) (t' : Nat) (tk' : Tok), Heap.ExtBut d h h' → h'.get? d = some { cls := .type "dict", data := .dict (es ++ [(⟨PyData.keyHash w.params name, .str name tk', v⟩ : DictEntry)]).toArray (n + 1) } → Q () ⟨h', g, dr, t', os⟩) :
    wpAny (model prog w) A (setAttr (.ref f) name v) Q E ⟨h, g, dr, t, os⟩ := by
  refine fun_setattr ho rfl hno fun Q' A' t' k => ?_
  unfold instanceDict
  repeat (first | (with_reducible refine wpAny_loadPart ho ?_) | wp_step | dsimp only)
  exact k _ _ fun tk QQ hQQ => store_tail hd hes hn hlen fun h'' t'' tk'' hx2 hd3 => hQQ _ _ (hq _ _ tk'' hx2 hd3)
end
end
section
open PySem PySem.W PyProof.Rows PySem.Calls
open PySem.Builtin PySem.Builtin.ObjectAttr
theorem fn253 (P) : Fn P 253 (scA 253) (bodyA 253) [] := by
  refine ⟨⟨_, _, _, rfl⟩, by decide, ⟨_, _, _, _, rfl, by decide, rfl, rfl, rfl⟩, rfl, rfl, by decide, by decide, rfl, rfl, rfl, rfl, rfl, by decide, pureB (len0 (by kernel_rfl))⟩
theorem cal253 : Callee (.ref 253) := fun P => ⟨_, _, _, _, rfl, by decide⟩
theorem code253 (P : Params) : ∃ c, (fdOf P 253).code = .ref c ∧ codeHdIn (Kt P) c 248 = true := ⟨_, rfl, by kernel_rfl⟩
section
variable {w : World} {c : Cx w} {ρ : List (List Addr)} {loc : Locs} {cs : List AC} {s s' : Shared} {k : Nat} {sc : Scope}
theorem Rep.addIceAt {I : Addr} {o : Obj} (R : Rep c ρ loc cs s) (hI : s.heap.get? I = some o) (hn : I ∉ c.L :: (c.own ++ ρ.flatten)) (hf : c.B.h.get? I = none ∧ I ∉ tabs) : Rep (c.ice I o) ρ loc cs s := by
  have perm := Rep.perm c I o ρ
  refine ⟨R.stat, R.fr, R.frs, ?_, R.len, R.cells, perm.nodup_iff.mp (List.nodup_cons.mpr ⟨hn, R.apart⟩), fun a ha => ?_⟩
  · intro p hp
    rcases List.mem_cons.mp hp with rfl | hp
    · exact hI
    · exact R.frz p hp
  · rcases List.mem_cons.mp (perm.mem_iff.mpr ha) with rfl | h
    · exact hf
    · exact R.fresh a h
theorem lam_eval {params : Arguments} {body : Expr} {scope : Scope} {pos : Pos} {Q : Value → Shared → Prop} {E : Value → Shared → Prop} (O : c.OK k sc) (hfd : c.fd = fdOf w.params 253) (R : Rep c ρ loc cs s) (hcl : closureFor scope c.env = pure []) (hdef : defaultsOf params c.env = ([], []))
    (hq : ∀ h' tk fd, Post c ρ s loc cs { s with heap := h', toks := tk } ρ → Q (.ref h'.objs.size) { s with heap := h'.push { cls := .type "function", data := .func fd }, toks := tk }) :
    wpAny (MD w) c.A (eval (.Lambda params body scope pos) c.env) Q E s := by
  refine kla_eval hdef ?_
  refine hideG fun Gq hGq => ?_
  obtain ⟨cc, hcode, hcd⟩ := code253 w.params
  have hcode' : c.env.code = .ref cc := by have e : c.env.code = c.fd.code := rfl; rw [e, hfd]; exact hcode
  obtain ⟨bm, d, sl, h1, h2, h3, h4, rfl⟩ := gl_builtins w.params
  have n1 : s.heap.Ns mainGlobals c.B.mg := R.stat.ns c.B.ng (by decide)
  have C : CodeHd s.heap cc 248 := codeHd_of_K R.stat.kt hcd
  obtain ⟨ps, hps, htr⟩ := R.stat.tab 248 (by decide)
  refine hGq ?_
  clear hGq Gq
  have hgb : c.B.mg (Str.ofString "__builtins__") = some (.ref bm) := by rw [ns_glOf c.B.K c.B.ng rfl]; exact h1
  have hbo := R.stat.keep _ _ (c.B.K _ _ h4) h3
  have hbG : bm ≠ mainGlobals := by
    rintro rfl
    refine hideG fun Gq hGq => ?_
    obtain ⟨o, es, ep, e, hd, _⟩ := n1
    refine hGq ?_
    clear hGq Gq
    rw [hbo] at e; cases e; cases hd
  have hbP : bm ≠ 248 := fun e => h3 (e ▸ by decide)
  cases hf : codeAmong pos ps.toList with
  | none =>
    refine kla_makeFunction hcl O.globals n1 hcode' C hps htr hf (by decide) ⟨bm, _, hgb, h2, hbG, hbP, hbo, rfl, rfl, rfl⟩ fun c' ctv h' tk hx hge hlt hrec htb => ?_
    exact hq h' tk _ (R.tabUpd (by decide) hx htb (by simpa using TriplesOk_snoc pos.line pos.col (.ref c') ps.toList htr))
  | some cv =>
    refine kla_makeFunctionHit hcl O.globals n1 hcode' C hps htr hf ⟨bm, _, hgb, h2, hbG, hbP, hbo, rfl, rfl, rfl⟩ fun ctv h' tk hk hsz => ?_
    exact hq h' tk _ (.heap R hk)
theorem gl_words' (w : World) (B : Bs w) : Gl "_law_words" (.ref 246) := gl_law_words
set_option maxHeartbeats 1000000 in
theorem cl_coder : Cl (k + 2) cs (.ref 253) [] (.obj cs.length) (cs ++ [.coder]) := by
  intro w c ρ loc s vs sc O R V
  cases V
  refine wpAny_call (enter_raw (k := k + 1) (loc0 := []) O R (fn253 w.params) rfl (fun x v e => by cases e) fun L s0 O0 R0 hk => ?_)
  refine wpAt_of_wpAny ?_
  have hlt0 : TK s.heap s0.heap := TK.of_keeps hk
  -- coder = lambda: None
  refine wpAny_execs_cons (wpAny_Assign_Name (lam_eval O0 rfl R0 rfl rfl fun h1 tk1 fd P1 => ?_) rfl)
  have R1 := P1.rep
  have hI1 : (h1.push { cls := .type "function", data := .func fd }).get? h1.objs.size = some { cls := .type "function", data := .func fd } := Heap.get?_push_size _ rfl
  have R2 : Rep ((c.callee 253 L loc).ice h1.objs.size { cls := .type "function", data := .func fd }) ρ [] cs { s0 with heap := h1.push { cls := .type "function", data := .func fd }, toks := tk1 } :=
    R1.addIce (s' := { s0 with heap := h1.push { cls := .type "function", data := .func fd }, toks := tk1 }) hI1 (Nat.le_refl _) (fun b o e => Heap.get?_push_of_some _ e) (fun _ _ e => e) R1.stat.bare rfl
  have tk2 : TK s0.heap (h1.push { cls := .type "function", data := .func fd }) := P1.tk.trans (TK.of_keeps fun b o e => Heap.get?_push_of_some _ e)
  obtain ⟨m, n, q⟩ := R2.fr
  refine wpAny_storeName_local (by rw [O0.kindOf]; rfl) n (fun h2 hn2 hsb2 => ?_) O0.plainStore
  have P3 := R2.setLoc (tk := tk1) (x := Str.ofString "coder") (v := .stat (.ref h1.objs.size)) (v' := .ref h1.objs.size) n q hn2 hsb2 rfl
  have R3 := P3.rep
  have hI3 := R3.frz _ (.head _)
  -- coder.header_encoding = 1
  refine wpAny_execs_cons (plainObj_wpAny_Assign_Attribute (wpAny_Constant_int ?_) rfl)
  refine hideG fun Gq hGq => ?_
  obtain ⟨m3, n3, q3⟩ := R3.fr
  obtain ⟨vc, e3, hvc⟩ := q3 (Str.ofString "coder") (.stat (.ref h1.objs.size)) rfl
  refine hGq ?_
  clear hGq Gq
  have hvc : vc = .ref h1.objs.size := hvc
  subst hvc
  refine wpAny_Name (wpAny_loadName_local O0.skind (by rw [O0.kindOf]; rfl) n3 e3 ?_) rfl
  refine fun_set1 hI3 fn_no1 fun h4 t4 tk4 hx4 hf4 hd4 => ?_
  obtain ⟨R4, tkk4⟩ := R3.reice (tk := t4) hx4 hf4 (by simp)
  have ow3 := R3.owned
  have hfr3 := R3.stat.new (Nat.le_refl _)
  have R5 := R4.addIceAt hd4 (fun hm => by
    have := ow3 _ hm
    exact Nat.lt_irrefl _ this) hfr3
  -- coder.header_encode_lines = _law_words
  refine wpAny_execs_cons (plainObj_wpAny_Assign_Attribute (name_gl (B := c.B) gl_law_words O0.skind (by rw [O0.kindOf]; rfl) O0.globals O0.builtins (R5.stat.ns c.B.ng (by decide)) (R5.stat.ns c.B.nb (by decide)) rfl ?_) rfl)
  refine hideG fun Gq hGq => ?_
  obtain ⟨m5, n5, q5⟩ := R5.fr
  obtain ⟨vc, e5, hvc⟩ := q5 (Str.ofString "coder") (.stat (.ref h1.objs.size)) rfl
  refine hGq ?_
  clear hGq Gq
  have hvc : vc = .ref h1.objs.size := hvc
  subst hvc
  refine wpAny_Name (wpAny_loadName_local O0.skind (by rw [O0.kindOf]; rfl) n5 e5 ?_) rfl
  have hI5 := R5.frz _ (.tail _ (.head _))
  have hd5 := R5.frz _ (.head _)
  refine fun_set2 (es := [_]) (kv := [(Str.ofString "header_encoding", .int 1 (tk1 + 1))]) hI5 fn_no2 hd5 (.cons ⟨tk4, rfl⟩ .nil) (fun p hp => by rw [List.mem_singleton.mp hp]; exact (by decide : Str.ofString "header_encoding" ≠ Str.ofString "header_encode_lines")) (Nat.le_of_ble_eq_true rfl) fun h6 t6 tk6 hx6 hd6 => ?_
  obtain ⟨R6, tkk6⟩ := R5.reice (tk := t6) hx6 hd6 (by simp)
  -- return coder
  refine hideG fun Gq hGq => ?_
  obtain ⟨m6, n6, q6⟩ := R6.fr
  obtain ⟨vc, e6, hvc⟩ := q6 (Str.ofString "coder") (.stat (.ref h1.objs.size)) rfl
  refine hGq ?_
  clear hGq Gq
  have hvc : vc = .ref h1.objs.size := hvc
  subst hvc
  refine wpAny_execs_cons (wpAny_Return_some (wpAny_Name (wpAny_loadName_local O0.skind (by rw [O0.kindOf]; rfl) n6 e6 ?_) rfl))
  have hI6 := R6.frz _ (.tail _ (.head _))
  have hd6' := R6.frz _ (.head _)
  have R7 := R6.claim (ac := .coder) ⟨_, _, fd, tk1 + 1, rfl, hI6, ⟨_, _, hd6', .cons ⟨tk4, rfl⟩ (.cons ⟨tk6, rfl⟩ .nil)⟩⟩
  have L1 := Post.leave (c := c) (s := s) (ρ := ρ) (s0 := s0) (a := 253) (L := L) (loc := loc) hlt0 ⟨List.prefix_append _ _, ((tk2.trans P3.tk).trans tkk4).trans tkk6, R7⟩
  exact ⟨_, L1, vrep_new R.len⟩
end
end
section
open PySem PySem.W PyProof.Rows PySem.Calls
open PySem.Builtin PySem.Builtin.ObjectAttr
theorem slot_fun_ga : Slot "function" "__getattribute__" "object.__getattribute__" := .of (owner := "object") (n := "__getattribute__") (by rw [typeLookup_type, builtinLookup_eq_fast]; kernel_rfl) (by decide +kernel) (by decide +kernel) (by decide +kernel)
  (by first | exact .inl (by decide +kernel) | exact .inr (by decide +kernel)) (by rw [isSubtype_type]; kernel_rfl)
theorem fn_noga : typeLookup (.type "function") (Str.ofString "__getattr__") = pure none := by rw [typeLookup_type, builtinLookup_eq_fast]; kernel_rfl
theorem entry_oga : entryFor table "object.__getattribute__" = some Builtin.«object.__getattribute__» := entryFor_of_tree (by kernel_rfl)
theorem args_oga (a b : Value) : argsOk "object.__getattribute__" ⟨[a, b], []⟩ := by unfold argsOk; kernel_rfl
section
variable {prog : Program} {w : World} {A : Around} {E : Value → Shared → Prop} {s : Shared}
theorem fun_attr {f d : Addr} {fd : FuncData} {es : List DictEntry} {n : Nat} {name : Str} {v : Value} {ex : Bool} {Q : Value → Shared → Prop} (ho : s.heap.get? f = some { cls := .type "function", dict := some d, data := .func fd }) (hno : typeLookup (.type "function") name = pure none)
    (hd : s.heap.get? d = some { cls := .type "dict", data := .dict es.toArray n }) (hv : ∃ e b, nsNameIn name.cps.size name.cps.toList es false = (some e, b) ∧ e.val = v) (hh : handedIn v = true) (h : Q v { s with toks := s.toks + 1 }) :
    wpAny (model prog w) A (getAttr (.ref f) name ex) Q E s := by
  refine hideG fun Gq hGq => ?_
  obtain ⟨hp, g, dr, t, os⟩ := s
  refine hGq ?_
  clear hGq Gq
  have hT : ∀ t, (⟨hp, g, dr, t, os⟩ : Shared).TypeIs (.ref f) "function" := fun t => ⟨_, ho, rfl⟩
  unfold getAttr getAttrBy
  refine wpAny_bind (wpAny_mkText (wpAny_holding (wpAny_bind (wpAny_typeOf (hT _) (wpAny_bind (wpAny_of_eq slot_fun_ga.lookup ?_))))))
  show wpAny _ _ (if (false && (Value.builtin "object.__getattribute__" == .builtin "object.__getattribute__")) = true then _ else _) _ _ _
  rw [if_neg (by decide)]
  unfold getAttrByItsOwn hookBefore callGetattribute boundAndCalled
  refine wpAny_bind (wpAny_of_eq (show (if onTheHeap (.type "function") then typeLookup (.type "function") "__getattr__" else pure none) = pure none from rfl) ?_)
  refine wpAny_bind (wpAny_attempt (wpAny_holding ?_))
  have e0 : (ex && onTheHeap (Value.builtin "object.__getattribute__")) = false := Bool.and_false ex
  rw [e0]
  show wpAny _ _ (bindSpecial (.builtin "object.__getattribute__") (.ref f) >>= _) _ _ _
  refine wpAny_bind (wpAny_of_eq (slot_fun_ga.bind _) ?_)
  refine wpAny_call_entry slot_fun_ga (hT _) entry_oga ?_ (args_oga _ _)
  unfold Builtin.«object.__getattribute__»
  refine wpAny_bind (wpAny_pure (wpAny_bind (wpAny_pure (wpAny_bind (wpAny_typeOf (hT _) (wpAny_bind ?_))))))
  unfold ObjectAttr.find ObjectAttr.ownThenClass ObjectAttr.inOwnDict ObjectAttr.ownDict
  repeat (first | (with_reducible refine wpAny_of_eq hno ?_) | (with_reducible refine wpAny_loadPart ho ?_) | (with_reducible refine wpAny_loadPart hd ?_) | wp_step | dsimp only)
  refine hideG fun Gq hGq => ?_
  obtain ⟨e, b, hv, rfl⟩ := hv
  refine hGq ?_
  clear hGq Gq
  rw [hv]
  refine wpAny_pure (wpAny_bind (wpAny_rule (wpAny_pure ?_)))
  refine wpAny_pure ⟨_, rfl, ?_⟩
  show wpAny _ _ (handedOut e.val) _ _ _
  rw [handedOut_of hh]; exact wpAny_pure h
end
section
variable {k : Nat} {sc : Scope} {loc : Locs} {cs : List AC}
theorem Rep.coderAt {w : World} {c : Cx w} {ρ s} (R : Rep c ρ loc cs s) {i : Nat} {a r} (hc : cs[i]? = some .coder) (ha : ρ[i]? = some (a :: r)) :
    ∃ d fd t t1 t2 n, r = [d] ∧ s.heap.get? a = some { cls := .type "function", dict := some d, data := .func fd } ∧ s.heap.get? d = some { cls := .type "dict", data := .dict (List.toArray [(⟨PyData.keyHash w.params (Str.ofString "header_encoding"), .str (Str.ofString "header_encoding") t1, .int 1 t⟩ : DictEntry), ⟨PyData.keyHash w.params (Str.ofString "header_encode_lines"), .str (Str.ofString "header_encode_lines") t2, .ref 246⟩]) n } := by
  refine hideG fun Gq hGq => ?_
  obtain ⟨a', d, fd, t, e, x, es, n, hd, h2⟩ := R.cells _ _ _ hc ha
  refine hGq ?_
  clear hGq Gq
  cases e
  cases h2 with
  | cons h0 h2 => cases h2 with
    | cons h1 h2 =>
      cases h2
      refine hideG fun Gq hGq => ?_
      obtain ⟨t1, rfl⟩ := h0
      obtain ⟨t2, rfl⟩ := h1
      refine hGq ?_
      clear hGq Gq
      exact ⟨d, fd, t, t1, t2, n, rfl, x, hd⟩
theorem at_henc {i : Nat} (hc : cs[i]? = some .coder) : Attr cs i "header_encoding" (.int 1) := by
  intro w c ρ loc s a r R ha A Q E q
  refine hideG fun Gq hGq => ?_
  obtain ⟨d, fd, t, t1, t2, n, rfl, ho, hd⟩ := R.coderAt hc ha
  refine hGq ?_
  clear hGq Gq
  exact fun_attr ho fn_no1 hd ⟨_, _, rfl, rfl⟩ rfl (q _ _ ⟨t, rfl⟩)
noncomputable def MethF (cs : List AC) (i : Nat) (name : Str) (f : Value) : Prop := ∀ (w : World) (c : Cx w) ρ loc s a r, Rep c ρ loc cs s → ρ[i]? = some (a :: r) →
  ∀ (A : Around) pl (Q : Value × List Value → Shared → Prop) E, (∀ tk, Q (f, []) { s with toks := tk }) → wpAny (MD w) A (getMethod (.ref a) name pl) Q E s
theorem can_obj : (Manifest.canonical "object.__getattribute__" != "object.__getattribute__") = false := by decide +kernel
theorem mf_lines {i : Nat} (hc : cs[i]? = some .coder) : MethF cs i "header_encode_lines" (.ref 246) := by
  intro w c ρ loc s a r R ha A pl Q E q
  refine hideG fun Gq hGq => ?_
  obtain ⟨d, fd, t, t1, t2, n, rfl, ho, hd⟩ := R.coderAt hc ha
  refine hGq ?_
  clear hGq Gq
  have hT : s.TypeIs (.ref a) "function" := ⟨_, ho, rfl⟩
  unfold getMethod
  refine wpAny_bind (wpAny_specialOf hT slot_fun_ga.lookup ?_)
  dsimp only
  rw [can_obj, if_neg (by decide)]
  refine wpAny_bind (wpAny_specialOf hT fn_noga ?_)
  refine wpAny_bind (wpAny_specialOf hT fn_no2 ?_)
  exact wpAny_bind (fun_attr ho fn_no2 hd ⟨_, _, rfl, rfl⟩ rfl (wpAny_pure (q _)))
theorem ev_methodF {o : Expr} {name : Str} {apos pos : Pos} {args : List Expr} {i : Nat} {f : Addr} {avs : List AV} {v cs1 cs2 cs3} {pl : Env → Sem Bool} (hm : MethF cs1 i name (.ref f)) (h : Ev k sc loc cs o (.obj i) cs1) (ha : EvL k sc loc cs1 args avs cs2)
    (hc : Cl k cs2 (.ref f) avs v cs3) (hcal : Callee (.ref f)) (hargs : ∀ env, starEach args env = args.map fun e => (false, eval e env))
    (he : ∀ env, eval (.Call (.Attribute o name apos) args [] pos) env = (do
      let ov ← eval o env
      standAt apos.atName
      let (f, first) ← holding [ov] (getMethod ov name (pl env))
      callWith pos f first (backTo pos (starEach args env)) (backToKw pos (keywordEach [] env)))) : Ev k sc loc cs (.Call (.Attribute o name apos) args [] pos) v cs3 := by
  intro w c ρ s O R
  refine methodCall_KW (pl := pl c.env) (wpAny_mono (h w c ρ s O R) (fun ov s1 hq => ?_) fun _ _ x => x.elim) (he _)
  refine hideG fun Gq hGq => ?_
  obtain ⟨ρ1, P1, a, r, e, rfl⟩ := hq
  refine hGq ?_
  clear hGq Gq
  refine hm w c ρ1 loc s1 a r P1.rep e c.A _ _ _ fun tk => ?_
  have P1' := P1.trans (.tok P1.rep tk)
  refine hideG fun Gq hGq => ?_
  obtain ⟨oc, od, fd, sl, hat, hnt⟩ := hcal w.params
  refine hGq ?_
  clear hGq Gq
  refine callWith_function (o := ⟨oc, od, .func fd, sl⟩) (fd := fd) (wpAny_callArgs (wpAny_mono (ha w c ρ1 _ pos O P1'.rep) (fun vs s2 hq => ?_) fun _ _ x => x) (hargs _))
  obtain ⟨ρ2, P2, V2⟩ := hq
  refine ⟨⟨P2.rep.stat.keep _ _ (c.B.K _ _ hat) hnt, rfl⟩, ?_⟩
  refine wpAny_mono (hc w c ρ2 loc s2 _ sc O P2.rep V2) (fun v' s3 h => ?_) fun _ _ x => x
  obtain ⟨ρ3, P3, V3⟩ := h
  exact ⟨ρ3, (P1'.trans P2).trans P3, V3⟩
end
end
section
open PySem PySem.W PyProof.Rows PySem.Calls
section
variable {k : Nat} {sc : Scope} {loc : Locs} {cs : List AC}
theorem strs_all2 {ρ h} {l : List Str} {vs : List Value} (x : StrsAre vs l) : All2 (VRep ρ h) (l.map .str) vs := by
  induction x with
  | nil => exact .nil
  | cons n t _ ih => exact .cons ⟨t, rfl⟩ ih
theorem star_tup {w : World} {A : Around} {E : Value → Shared → Prop} {s : Shared} {a : Addr} {vs : List Value} {Q : List Value → Shared → Prop} (hT : IsTup s.heap a vs.toArray) (hz : vs.length ≤ 100000)
    (h : ∀ h', (∀ b o, s.heap.get? b = some o → h'.get? b = some o) → Q vs { s with heap := h' }) : StarOf (MD w) A E (.ref a) Q s := by
  refine hideG fun Gq hGq => ?_
  obtain ⟨o, ho, hc, n, hd⟩ := hT
  refine hGq ?_
  clear hGq Gq
  have hT' : s.TypeIs (.ref a) "tuple" := ⟨o, ho, hc⟩
  have z : wpAny (MD w) A (collect (.ref a)) Q E s := wpAny_collect_seq a (.inr rfl) ho hc hd (fun h' hk => h h' hk) (by simp [sizeLine_eq]; lia)
  unfold StarOf notIterableAtAll
  exact wpAny_bind (wpAny_specialOf hT' PySem.F.slot_tuple_iter.lookup (wpAny_pure ⟨rfl, z⟩))
theorem acc_bound {w : World} {A : Around} {E : Value → Shared → Prop} {s : Shared} {a d f : Addr} {its : Array Value} {n : Nat} {t2 : Tok} {init : Int} {t : Tok} {n2 : Nat} {name : Str} {ex : Bool} {Q : Value → Shared → Prop} (X : (Kt w.params).In s.heap) (ho : s.heap.get? a = some ⟨.ref 193, some d, .seq its n, #[]⟩) (hd : s.heap.get? d = some (accD w.params t2 init t n2))
    (hf : findObj (Kt w.params) 193 (some (accD w.params t2 init t n2)) name = some (.bind (.builtin "function.__get__") (.ref f))) (hft : typeIn (Kt w.params) (.ref f) = some (.type "function"))
    (h : Q (.ref s.heap.objs.size) { s with heap := s.heap.push { cls := .type "method", data := .fields #[.ref f, .ref a] }, toks := s.toks + 1 }) : wpAny (MD w) A (getAttr (.ref a) name ex) Q E s := by
  refine hideG fun Gq hGq => ?_
  obtain ⟨hp, g, dr, t, os⟩ := s
  refine hGq ?_
  clear hGq Gq
  have I := accInstAt (P := w.params) ho hd
  have L0 := I.type (M := MD w)
  have L1 := looks_findIn (M := MD w) X (acc_ga _)
  have L2 := looks_findIn (M := MD w) X (acc_gt _)
  unfold getAttr getAttrBy
  refine wpAny_bind (wpAny_mkText (wpAny_holding (wpAny_bind (L0.at (wpAny_bind (L1.at ?_))))))
  show wpAny _ _ (if (true && (Value.builtin "list.__getattribute__" == .builtin "object.__getattribute__")) = true then _ else _) _ _ _
  rw [if_neg (by decide +kernel)]
  unfold getAttrByItsOwn hookBefore callGetattribute boundAndCalled
  refine wpAny_bind (L2.at ?_)
  refine wpAny_bind (wpAny_attempt (wpAny_holding ?_))
  have e0 : (ex && onTheHeap (Value.builtin "list.__getattribute__")) = false := Bool.and_false ex
  rw [e0]
  show wpAny _ _ (bindSpecial (.builtin "list.__getattribute__") (.ref a) >>= _) _ _ _
  refine wpAny_bind (wpAny_of_eq (PySem.F.slot_list_getattribute.bind _) ?_)
  refine sub_call (owner := "list") (n := "__getattribute__") X I (by kernel_rfl) (by decide +kernel) (.inl (by decide +kernel)) PySem.F.slot_list_getattribute.plain am_entry_list_getattribute (PySem.F.args_list_getattribute_2 _ _) ?_
  have L3 := looks_find (M := MD w) X I hf
  unfold Builtin.«object.__getattribute__»
  refine wpAny_bind (wpAny_pure (wpAny_bind (wpAny_pure (wpAny_bind (L0.at (wpAny_bind (L3.at ?_)))))))
  dsimp only
  unfold Builtin.ObjectAttr.bindTo
  dsimp only
  have hTf : (⟨hp, g, dr, t + 1, os⟩ : Shared).TypeIs (.ref f) "function" := by
    unfold typeIn at hft
    obtain ⟨o, e1, e2⟩ := Option.map_eq_some_iff.mp hft
    exact ⟨o, X _ _ e1, e2⟩
  refine wpAny_bind (wpAny_holding (wpAny_call_entry F.ks_slot_function_get hTf F.ks_entry_function_get ?_ (F.ks_getArgs_function _ _ _)))
  unfold Builtin.«function.__get__»
  repeat (first | wp_step | dsimp only)
  refine ⟨_, rfl, wpAny_pure ?_⟩
  exact wpAny_pure h
noncomputable def ClC (k : Nat) (cs : List AC) (f : Value) (args : List AV) (v : AV) (cs' : List AC) : Prop :=
  ∀ (w : World) (c : Cx w) ρ loc s vs sc, c.OK k sc → Rep c ρ loc cs s → All2 (VRep ρ s.heap) args vs →
    codeAny (MD w) c.A (.call f ⟨vs, []⟩) (fun r s' => ∃ v', r = .ok (.ret v') ∧ ∃ ρ', Post c ρ s loc cs' s' ρ' ∧ VRep ρ' s'.heap v v') s
theorem clc_bf {a : Addr} {args : List AV} {cs' : List AC} {sc : Scope} {body : List Stmt} {names : List Str} (f : AF) (F : ∀ P, Fn P a sc body names) (hl : names.length = args.length) (h : Bf k sc (names.zip args) cs body f cs') : ClC (k + 1) cs (.ref a) args f.val cs' := by
  obtain ⟨loc', h⟩ := h
  intro w c ρ loc s vs scc O R V
  refine enter_raw O R (F _) (by rw [hl, V.length]) (loc0 := names.zip args) (VRep.args names V hl) fun L s0 O0 R0 hk => wpAt_of_wpAny (wpAny_mono (h w _ ρ _ O0 R0) (fun f' s' hq => ?_) fun _ _ x => x.elim)
  obtain ⟨ρ', P, q⟩ := hq
  refine ⟨_, rfl, ρ', P.leave (TK.of_keeps hk), ?_⟩
  cases f with
  | next => cases q; rfl
  | ret v => obtain ⟨v', rfl, q⟩ := q; exact q
theorem ev_methodStar {o e : Expr} {name : Str} {apos pos p : Pos} {i : Nat} {f : Addr} {l : List Str} {acl init} {v cs1 cs2 cs3} (h : Ev k sc loc cs o (.obj i) cs1) (hi : cs1[i]? = some (.acc acl init)) (ha : Ev k sc loc cs1 e (.tupS l) cs2) (hl : l.length ≤ 100000)
    (hc : ClC k cs2 (.ref f) (.obj i :: l.map .str) v cs3) (hk : ∀ P, fnIn (Kt P) f = true) (hft : ∀ P, typeIn (Kt P) (.ref f) = some (.type "function")) (hff : ∀ P t2 t n2, findObj (Kt P) 193 (some (accD P t2 init t n2)) name = some (.bind (.builtin "function.__get__") (.ref f))) (hst : ∀ env, starEach [.Starred e p] env = [(true, eval e env)])
    (he : ∀ env, eval (.Call (.Attribute o name apos) [.Starred e p] [] pos) env = (do
      let ov ← eval o env
      standAt apos.atName
      let (f, first) ← holding [ov] (do pure (← getAttr ov name true, []))
      callWith pos f first (backTo pos (starEach [.Starred e p] env)) (backToKw pos (keywordEach [] env)))) : Ev k sc loc cs (.Call (.Attribute o name apos) [.Starred e p] [] pos) v cs3 := by
  intro w c ρ s O R
  rw [he]
  refine wpAny_bind (wpAny_mono (h w c ρ s O R) (fun ov s1 hq => wpAny_bind (wpAny_standAt ?_)) fun _ _ x => x.elim)
  refine hideG fun Gq hGq => ?_
  obtain ⟨ρ1, P1, a, r, ea, rfl⟩ := hq
  obtain ⟨d, its, n, t, t2, n2, rfl, ho, hd, hpr⟩ := accInst P1.rep hi ea
  refine hGq ?_
  clear hGq Gq
  refine wpAny_bind (wpAny_holding (wpAny_bind (acc_bound P1.rep.stat.kt ho hd (hff _ _ _ _) (hft _) (wpAny_pure ?_))))
  have P2 : Post c ρ1 s1 loc cs1 { s1 with heap := s1.heap.push { cls := .type "method", data := .fields #[.ref f, .ref a] }, toks := s1.toks + 1 } ρ1 := .heap P1.rep fun b o e => Heap.get?_push_of_some _ e
  have hm2 : (s1.heap.push { cls := .type "method", data := .fields #[.ref f, .ref a] }).get? s1.heap.objs.size = some { cls := .type "method", data := .fields #[.ref f, .ref a] } := Heap.get?_push_size _ rfl
  have R3 := P2.rep.addIceAt hm2 (fun hm => Nat.lt_irrefl _ (P1.rep.owned _ hm)) (P1.rep.stat.new (Nat.le_refl _))
  show wpAny (MD w) c.A (callWith pos (.ref s1.heap.objs.size) [] (backTo pos (starEach [.Starred e p] c.env)) []) _ _ _
  rw [hst]
  refine ks_call (P := MethP (Kt w.params) s1.heap.objs.size f (.ref a)) rfl (keeps_M (hk _)) (ks_lone ?_)
  refine wpAny_mono (ha w (c.ice s1.heap.objs.size { cls := .type "method", data := .fields #[.ref f, .ref a] }) ρ1 _ (O.ice _ _) R3) (fun v' s2 hq => ?_) fun _ _ x => x.elim
  refine hideG fun Gq hGq => ?_
  obtain ⟨ρ2, P3, b, vs, rfl, ht, hs⟩ := hq
  refine hGq ?_
  clear hGq Gq
  have hlen : vs.length = l.length := hs.length
  refine star_tup ht (by lia) fun h' hk' => ?_
  have P4 : Post (c.ice s1.heap.objs.size { cls := .type "method", data := .fields #[.ref f, .ref a] }) ρ2 s2 loc cs2 { s2 with heap := h', toks := s2.toks } ρ2 := .heap P3.rep hk'
  have hm4 := P4.rep.frz _ (.head _)
  refine ⟨⟨hm4, P4.rep.stat.kt⟩, ?_⟩
  have PM : Post c ρ s loc cs2 { s2 with heap := h', toks := s2.toks } ρ2 := (P1.trans P2).trans (P3.trans P4).melt
  refine wpAny_call (ks_codeAny_call_bound hm4 (codeAny_mono (hc w c ρ2 loc _ (.ref a :: vs) sc O PM.rep (.cons ⟨a, _, prefix_get P3.pre ea, rfl⟩ (strs_all2 hs))) fun r s' hq => ?_))
  refine hideG fun Gq hGq => ?_
  obtain ⟨v', rfl, ρ5, P5, V5⟩ := hq
  refine hGq ?_
  clear hGq Gq
  exact ⟨ρ5, PM.trans P5, V5⟩
theorem fnin137 (P : Params) : fnIn (Kt P) 137 = true := by kernel_rfl
theorem typ137 (P : Params) : typeIn (Kt P) (.ref 137) = some (.type "function") := by kernel_rfl
theorem find137 (init : Int) (P : Params) (t2 t : Tok) (n2 : Nat) : findObj (Kt P) 193 (some (accD P t2 init t n2)) (Str.ofString "push") = some (.bind (.builtin "function.__get__") (.ref 137)) := by kernel_rfl
end
end
local macro_rules | `(tactic| kl_some) => `(tactic| first
  | ((with_reducible apply ev_local); (· exact rfl); (· first | exact rfl | assumption); (· exact rfl))
  | fail "none")
local macro_rules | `(tactic| k_units) => `(tactic| with_reducible first
  | (apply m_lappS; assumption)
  | (apply m_lpop; assumption)
  | (apply m_lappI; assumption)
  | (apply at_henc; assumption)
  | fail "none")
local macro_rules | `(tactic| ki_room) => `(tactic| with_reducible first
  | (apply cl_lappS <;> assumption)
  | (apply cl_lappI <;> assumption)
  | (apply cl_lappN <;> assumption)
  | fail "none")
local macro_rules | `(tactic| kl_room) => `(tactic| first
  | with_reducible (first | exact cal253)
  | fail "none")
section
open PySem PySem.W PyProof.Rows PySem.Calls
theorem eqv_tup2 (a b c d : Str) : PyData.eqv (.tuple ([a, b].map .str)) (.tuple ([c, d].map .str)) = decide (a = c ∧ b = d) := by
  simp only [List.map_cons, List.map_nil, PyData.eqv, PyData.eqvAll]
  by_cases h1 : a = c <;> by_cases h2 : b = d <;> simp [h1, h2]
noncomputable def nlAcc (l : List (Str × Str)) : List (Str × Str) := match l.getLast? with
  | none => [(Str.ofString "", Str.ofString "")]
  | some p => if p.1 = Str.ofString " " ∧ p.2 = Str.ofString "" then l.dropLast else l
theorem nlAcc_nil : nlAcc [] = [(Str.ofString "", Str.ofString "")] := rfl
theorem nlAcc_snoc (l : List (Str × Str)) (x y : Str) : nlAcc (l ++ [(x, y)]) = if x = Str.ofString " " ∧ y = Str.ofString "" then l else l ++ [(x, y)] := by
  simp [nlAcc]
theorem list_snoc {α : Type} (l : List α) : l = [] ∨ ∃ l' a, l = l' ++ [a] := by
  induction l with
  | nil => exact .inl rfl
  | cons x r ih =>
    rcases ih with rfl | ⟨l', a, rfl⟩
    · exact .inr ⟨[], x, rfl⟩
    · exact .inr ⟨x :: l', a, rfl⟩
section
variable {k : Nat} {cs : List AC}
theorem Closed.all {cs : List AC} {i : Nat} {ac : AC} (hcl : ∀ a ∈ cs, Closed cs.length a) (h : Closed cs.length ac) : ∀ a ∈ cs.set i ac, Closed (cs.set i ac).length a := by
  intro a ha
  rw [List.length_set]
  rcases List.mem_or_eq_of_mem_set ha with h' | rfl
  · exact hcl a h'
  · exact h
theorem clc_push {i : Nat} {l init} {x y : Str} (hc : cs[i]? = some (.acc l init)) (hl : l.length ≤ 100000) : ClC (k + 1) cs (.ref 137) [.obj i, .str x, .str y] .none (cs.set i (.acc (l ++ [(x, y)]) init)) := by
  apply clc_bf .next (fun P => fn137 P) rfl
  exact bf_cons (by kt_l_size) bf_nil
theorem cl_newline {f li ai : Nat} {ml init : Int} {ws : Str} {ln : List (Option Str)} {l : List (Str × Str)} (hf : cs[f]? = some (.fm ml ws li ai)) (hli : cs[li]? = some (.strL ln)) (hai : cs[ai]? = some (.acc l init)) (hcl : ∀ ac ∈ cs, Closed cs.length ac)
    (hl : ∀ p ∈ l, p.1.length + p.2.length ≤ 1000) (hn : l.length ≤ 100) (hi : 0 ≤ init ∧ init ≤ 1000) (hln : ln.length ≤ 1000) (hs : init = 0 → 0 < init + accLen (nlAcc l) → Txt.isspace (accStr (nlAcc l)) = false) (hok : ∀ p ∈ l, PyData.strOk p.1 = true ∧ PyData.strOk p.2 = true) :
    Cl (k + 6) cs (.ref 71) [.obj f] .none ((cs.set li (.strL (if 0 < init + accLen (nlAcc l) then ln ++ [some (accStr (nlAcc l))] else ln))).set ai (.acc [] 0)) := by
  have hln' : ln.length ≤ 100000 := by lia
  have nla : li ≠ ai := by rintro rfl; rw [hli] at hai; cases hai
  have nfa : f ≠ ai := by rintro rfl; rw [hf] at hai; cases hai
  have nfl : f ≠ li := by rintro rfl; rw [hf] at hli; cases hli
  -- behind the first two statements
  have hl2 : ∀ p ∈ nlAcc l, p.1.length + p.2.length ≤ 1000 := by
    rcases list_snoc l with rfl | ⟨l', ⟨x, y⟩, rfl⟩
    · intro p hp; rw [nlAcc_nil] at hp; rw [List.mem_singleton.mp hp]; decide
    · intro p hp; rw [nlAcc_snoc] at hp
      split at hp
      · exact hl p (List.mem_append_left _ hp)
      · exact hl p hp
  have hn2 : (nlAcc l).length ≤ 1000 := by
    rcases list_snoc l with rfl | ⟨l', ⟨x, y⟩, rfl⟩
    · rw [nlAcc_nil]; decide
    · rw [nlAcc_snoc]; split <;> simp at hn ⊢ <;> lia
  have rest : ∀ loc : Locs, loc.lookup (Str.ofString "self") = some (.obj f) → Bf (k + 5) (scA 71) loc (cs.set ai (.acc (nlAcc l) init)) ((bodyA 71).drop 2) .next ((cs.set li (.strL (if 0 < init + accLen (nlAcc l) then ln ++ [some (accStr (nlAcc l))] else ln))).set ai (.acc [] 0)) := by
    intro loc hself
    have hf1 : (cs.set ai (.acc (nlAcc l) init))[f]? = some (.fm ml ws li ai) := by rw [List.getElem?_set_ne nfa.symm]; exact hf
    have hli1 : (cs.set ai (.acc (nlAcc l) init))[li]? = some (.strL ln) := by rw [List.getElem?_set_ne nla.symm]; exact hli
    have hai1 : (cs.set ai (.acc (nlAcc l) init))[ai]? = some (.acc (nlAcc l) init) := get_set_self hai
    have hcl1 : ∀ a ∈ cs.set ai (.acc (nlAcc l) init), Closed (cs.set ai (.acc (nlAcc l) init)).length a := Closed.all hcl trivial
    have es : Ev (k + 5) (scA 71) loc (cs.set ai (.acc (nlAcc l) init)) (.Name (Str.ofString "self") default) (.obj f) (cs.set ai (.acc (nlAcc l) init)) := ev_local rfl hself rfl
    by_cases hz : 0 < init + accLen (nlAcc l)
    · rw [if_pos hz]
      have how : Cl (k + 5) (cs.set ai (.acc (nlAcc l) init)) (.ref 182) [.obj ai] (.bool false) (cs.set ai (.acc (nlAcc l) init)) := cl_onlyws (k := k + 1) hai1 hl2 hn2 hi (by lia) fun h0 => hs h0 hz
      apply bf_ifNT (cs1 := cs.set ai (.acc (nlAcc l) init)) (tst_eq (by kl_some) (by simpa using hz)) (exs_cons (ex_ifF (tst_and_f (tst_eq (b := false) (by kl_some) rfl)) (exs_cons (by kt_l_size) exs_nil)) exs_nil)
      have hcl2 := Closed.all (i := li) (ac := .strL (ln ++ [some (accStr (nlAcc l))])) hcl1 trivial
      have hf2 : ((cs.set ai (.acc (nlAcc l) init)).set li (.strL (ln ++ [some (accStr (nlAcc l))])))[f]? = some (.fm ml ws li ai) := by rw [List.getElem?_set_ne nfl.symm]; exact hf1
      have hai2 : ((cs.set ai (.acc (nlAcc l) init)).set li (.strL (ln ++ [some (accStr (nlAcc l))])))[ai]? = some (.acc (nlAcc l) init) := by rw [List.getElem?_set_ne nla]; exact hai1
      have hr := cl_reset (k := k + 4) hai2 (by lia) hcl2
      have e : ((cs.set ai (.acc (nlAcc l) init)).set li (.strL (ln ++ [some (accStr (nlAcc l))]))).set ai (.acc [] 0) = (cs.set li (.strL (ln ++ [some (accStr (nlAcc l))]))).set ai (.acc [] 0) := by
        rw [List.set_comm _ _ nla.symm, List.set_set]
      rw [e] at hr
      exact bf_cons (by kt_l_size) bf_nil
    · rw [if_neg hz]
      have hr := cl_reset (k := k + 4) hai1 (by lia) hcl1
      have e : (cs.set ai (.acc (nlAcc l) init)).set ai (.acc [] 0) = (cs.set li (.strL ln)).set ai (.acc [] 0) := by
        rw [List.set_set]
        congr 1
        refine List.ext_getElem? fun i => ?_
        by_cases h : li = i
        · subst h; rw [hli, get_set_self hli]
        · rw [List.getElem?_set_ne h]
      rw [e] at hr
      apply bf_ifNF (cs1 := cs.set ai (.acc (nlAcc l) init)) (tst_eq (by kl_some) (by simpa using hz)) exs_nil
      exact bf_cons (by kt_l_size) bf_nil
  apply cl_bf .next (fun P => fn71 P) rfl
  have ok1 : [Str.ofString " ", Str.ofString ""].all PyData.strOk = true := by decide +kernel
  rcases list_snoc l with rfl | ⟨l', ⟨x, y⟩, rfl⟩
  · have hpop := cl_pop0 (k := k + 3) hai
    apply bf_cons (cs1 := cs) (by kt_l_size)
    have hp := clc_push (k := k + 4) (x := Str.ofString "") (y := Str.ofString "") hai (by decide)
    refine bf_ifNT (cs1 := cs) (tst_eq (tst_cmpc (a := .tupS [Str.ofString "", Str.ofString ""]) (b := .tupS [Str.ofString " ", Str.ofString ""]) (by kl_some) (by kl_some) (cmp_neTS _ _ (by decide +kernel) ok1).c rfl) (by rw [eqv_tup2]; decide))
      (exs_cons (ex_expr (ev_methodStar (f := 137) (l := [Str.ofString "", Str.ofString ""]) (by kl_some) hai (by kl_some) (by decide) hp fnin137 typ137 (find137 _) (fun _ => rfl) (fun _ => rfl)) (fun _ => rfl)) exs_nil) ?_
    exact rest _ rfl
  · have hl' : l'.length ≤ 100000 := by simp at hn; lia
    have hpop := cl_pop (k := k + 3) hai hl'
    have hokl := hok (x, y) (by simp)
    apply bf_cons (cs1 := cs.set ai (.acc l' init)) (by kt_l_size)
    have hf1 : (cs.set ai (.acc l' init))[f]? = some (.fm ml ws li ai) := by rw [List.getElem?_set_ne nfa.symm]; exact hf
    have hai1 : (cs.set ai (.acc l' init))[ai]? = some (.acc l' init) := get_set_self hai
    have ok2 : [x, y].all PyData.strOk = true := by simp [hokl.1, hokl.2]
    by_cases e : x = Str.ofString " " ∧ y = Str.ofString ""
    · have e2 : nlAcc (l' ++ [(x, y)]) = l' := by rw [nlAcc_snoc, if_pos e]
      refine bf_ifNF (cs1 := cs.set ai (.acc l' init)) (tst_eq (tst_cmpc (a := .tupS [x, y]) (b := .tupS [Str.ofString " ", Str.ofString ""]) (by kl_some) (by kl_some) (cmp_neTS _ _ ok2 ok1).c rfl) (by rw [eqv_tup2, decide_eq_true e]; rfl)) exs_nil ?_
      rw [e2] at rest ⊢
      exact rest _ rfl
    · have e2 : nlAcc (l' ++ [(x, y)]) = l' ++ [(x, y)] := by rw [nlAcc_snoc, if_neg e]
      have hp := clc_push (k := k + 4) (x := x) (y := y) hai1 hl'
      rw [List.set_set] at hp
      refine bf_ifNT (cs1 := cs.set ai (.acc l' init)) (tst_eq (tst_cmpc (a := .tupS [x, y]) (b := .tupS [Str.ofString " ", Str.ofString ""]) (by kl_some) (by kl_some) (cmp_neTS _ _ ok2 ok1).c rfl) (by rw [eqv_tup2, decide_eq_false e]; rfl))
        (exs_cons (ex_expr (ev_methodStar (f := 137) (l := [x, y]) (by kl_some) hai1 (by kl_some) (by simp) hp fnin137 typ137 (find137 _) (fun _ => rfl) (fun _ => rfl)) (fun _ => rfl)) exs_nil) ?_
      rw [e2] at rest ⊢
      exact rest _ rfl
end
end
section
open PySem PySem.W PyProof.Rows PySem.Calls
theorem cal92 : Callee (.ref 92) := fun P => ⟨_, _, _, _, rfl, by decide⟩
end
local macro_rules | `(tactic| kl_room) => `(tactic| first
  | with_reducible (first | exact cal92)
  | fail "none")
section
open PySem PySem.W PyProof.Rows PySem.Calls
section
variable {k : Nat} {cs : List AC}
theorem cl_chunk {f li ai : Nat} {ml init : Int} {ws : Str} {l : List (Str × Str)} {x y : Str} (hf : cs[f]? = some (.fm ml ws li ai)) (hai : cs[ai]? = some (.acc l init)) (hl : ∀ p ∈ l ++ [(x, y)], p.1.length + p.2.length ≤ 1000) (hn : l.length ≤ 100) (hi : 0 ≤ init ∧ init ≤ 1000)
    (hfit : init + accLen (l ++ [(x, y)]) ≤ ml) : Cl (k + 4) cs (.ref 106) [.obj f, .str x, .str y] .none (cs.set ai (.acc (l ++ [(x, y)]) init)) := by
  have nfa : f ≠ ai := by rintro rfl; rw [hf] at hai; cases hai
  have hn' : l.length ≤ 100000 := by lia
  have hn2 : (l ++ [(x, y)]).length ≤ 1000 := by simp; lia
  have hf1 : (cs.set ai (.acc (l ++ [(x, y)]) init))[f]? = some (.fm ml ws li ai) := by rw [List.getElem?_set_ne nfa.symm]; exact hf
  have hai1 : (cs.set ai (.acc (l ++ [(x, y)]) init))[ai]? = some (.acc (l ++ [(x, y)]) init) := get_set_self hai
  have hp := cl_push (k := k + 2) (x := x) (y := y) hai hn'
  apply cl_bf .next (fun P => fn106 P) rfl
  apply bf_cons (cs1 := cs.set ai (.acc (l ++ [(x, y)]) init)) (by kt_l_size)
  apply bf_ifNF (cs1 := cs.set ai (.acc (l ++ [(x, y)]) init)) (tst_eq (by kl_some) (by simpa using hfit)) exs_nil
  exact bf_nil
theorem cl_trans {f li ai : Nat} {ml init : Int} {ws : Str} {l : List (Str × Str)} (hf : cs[f]? = some (.fm ml ws li ai)) (hai : cs[ai]? = some (.acc l init)) (hn : l.length ≤ 100000) :
    Cl (k + 2) cs (.ref 78) [.obj f] .none (cs.set ai (.acc (l ++ [(Str.ofString " ", Str.ofString "")]) init)) := by
  have hp := cl_push (k := k) (x := Str.ofString " ") (y := Str.ofString "") hai hn
  apply cl_bf .next (fun P => fn78 P) rfl
  exact bf_cons (by kt_l_size) bf_nil
noncomputable def feedAcc (l : List (Str × Str)) (fws : Str) : Option Str → List (Str × Str)
  | some w => l ++ [(fws, w)]
  | none => l
noncomputable def Tl (cs : List AC) (f : Nat) (m : List (Option Str)) : List AC := cs ++ [.gen f true, .strL m]
theorem Tl_get {cs : List AC} {f i : Nat} {m : List (Option Str)} {ac : AC} (h : cs[i]? = some ac) : (Tl cs f m)[i]? = some ac := by
  unfold Tl; rw [List.getElem?_append_left (lt_of_get h)]; exact h
theorem Tl_last {cs : List AC} {f n : Nat} {m : List (Option Str)} (h : cs.length = n) : (Tl cs f m)[n + 1]? = some (.strL m) := by
  subst h; unfold Tl; rw [List.getElem?_append_right (by lia)]; simp
theorem Tl_set {cs : List AC} {f i : Nat} {m : List (Option Str)} {x : AC} (h : i < cs.length) : (Tl cs f m).set i x = Tl (cs.set i x) f m := by
  unfold Tl; rw [List.set_append_left _ _ h]
theorem Tl_setLast {cs : List AC} {f n : Nat} {m m' : List (Option Str)} (h : cs.length = n) : (Tl cs f m).set (n + 1) (.strL m') = Tl cs f m' := by
  subst h; unfold Tl; rw [List.set_append_right _ _ (by lia)]; simp
theorem Tl_closed {cs : List AC} {f : Nat} {m : List (Option Str)} (h : ∀ ac ∈ cs, Closed cs.length ac) (hf : f < cs.length) : ∀ ac ∈ Tl cs f m, Closed (Tl cs f m).length ac := by
  intro ac ha
  have hlen : (Tl cs f m).length = cs.length + 2 := by simp [Tl]
  rw [hlen]
  rcases List.mem_append.mp ha with ha | ha
  · have := h ac ha
    cases ac <;> simp only [Closed] at this ⊢ <;> first | trivial | lia | (exact ⟨by lia, by lia⟩)
  · simp at ha
    rcases ha with rfl | rfl
    · show f < _; lia
    · trivial
theorem Tl_cut {cs cs' : List AC} {f : Nat} {m : List (Option Str)} {g : Value} {args : List AV} {v : AV} (h : Cl k cs g args v (Tl cs' f m)) (hl : cs'.length = cs.length) (hc : ∀ ac ∈ cs', Closed cs'.length ac) (hv : ∀ i, v = .obj i → i < cs.length) : Cl k cs g args v cs' := by
  have ht : (Tl cs' f m).take cs.length = cs' := by unfold Tl; rw [← hl]; exact List.take_left' rfl
  have := cl_cut cs.length h (Nat.le_refl _) (by rw [ht]; intro ac ha; rw [← hl]; exact hc ac ha) hv
  rwa [ht] at this

theorem bf_exr {sc loc st rest v loc1 cs1} (h : Ex k sc loc cs st (.ret v) loc1 cs1) : Bf k sc loc cs (st :: rest) (.ret v) cs1 := ⟨_, exs_ret h⟩
theorem cl_feed0 {f li ai co : Nat} {ml init : Int} {ws : Str} {l : List (Str × Str)} {text w : Str} (hf : cs[f]? = some (.fm ml ws li ai)) (hai : cs[ai]? = some (.acc l init)) (hco : cs[co]? = some .coder) (hcl : ∀ ac ∈ cs, Closed cs.length ac)
    (hl : ∀ p ∈ l ++ [(Str.ofString "", w)], p.1.length + p.2.length ≤ 1000) (hn : l.length ≤ 100) (hi : 0 ≤ init ∧ init ≤ 1000) (hfit : init + accLen (l ++ [(Str.ofString "", w)]) ≤ ml)
    (hw : Cl (k + 8) (cs ++ [.gen f false]) (.ref 246) [.str text, .obj cs.length] (.obj (cs.length + 1)) (Tl cs f [some w])) :
    Cl (k + 9) cs (.ref 85) [.obj f, .str (Str.ofString ""), .str text, .obj co] .none (cs.set ai (.acc (l ++ [(Str.ofString "", w)]) init)) := by
  have hlf := lt_of_get hf
  refine Tl_cut (f := f) (m := []) ?_ (by simp) (Closed.all hcl trivial) (fun i e => by cases e)
  apply cl_bf (.ret .none) (fun P => fn85 P) rfl
  apply bf_ifNF (cs1 := cs) (tst_cmpc (a := .int 1) (b := .none) (v := false) (by kl_some) ev_none (cmp_isNone (.int 1) (fun u e => by cases e)).c rfl) exs_nil
  have hmx : Cl (k + 8) cs (.ref 92) [.obj f] (.obj cs.length) (cs ++ [.gen f false]) := cl_maxl
  apply bf_cons (cs1 := Tl cs f [some w]) (ex_assign (ev_methodF (mf_lines hco) (by kl_some) (evl_cons (by kl_some) (evl_cons (by kl_some) evl_nil (fun _ => rfl)) (fun _ => rfl)) hw cal246 (fun _ => rfl) (fun _ => rfl)) rfl (fun _ => rfl))
  have h1 : (Tl cs f [some w])[cs.length + 1]? = some (.strL (some w :: [])) := Tl_last rfl
  have hp := cl_lpop0 (k := k + 8) h1 (by decide)
  rw [Tl_setLast rfl] at hp
  have hp : Cl (k + 8) (Tl cs f [some w]) (.builtin "list.pop") [.obj (cs.length + 1), .int 0] (.str w) (Tl cs f []) := hp
  apply bf_cons (cs1 := Tl cs f []) (ex_tryOK (exs_cons (ex_assign (ev_method (by kl_some) (m_lpop h1) (by kl_some) hp trivial (fun _ => rfl) (fun _ => rfl)) rfl (fun _ => rfl)) exs_nil))
  have hch := cl_chunk (k := k + 4) (x := Str.ofString "") (y := w) (Tl_get (f := f) (m := []) hf) (Tl_get (f := f) (m := []) hai) hl hn hi hfit
  rw [Tl_set (lt_of_get hai)] at hch
  have hf3 := Tl_get (f := f) (m := []) hf
  apply bf_ifNT (cs1 := Tl cs f []) (tst_cmpc (a := .str w) (b := .none) (v := true) (by kl_some) ev_none (cmp_notNone (.str w) (fun u e => by cases e)).c rfl) (exs_cons (ex_expr (by kl_some) (fun _ => rfl)) exs_nil)
  refine bf_exr (ex_tryPop (i := cs.length + 1) (by kl_some) ?_ rfl (fun _ => rfl) (fun _ => rfl))
  exact Tl_last (by simp)
theorem set_same {i : Nat} {ac : AC} (h : cs[i]? = some ac) : cs.set i ac = cs := by
  refine List.ext_getElem? fun j => ?_
  by_cases e : i = j
  · subst e; rw [get_set_self h, h]
  · rw [List.getElem?_set_ne e]
noncomputable def forBody : List Stmt := match (bodyA 85).getLast? with
  | some (.For _ _ b _ _) => b
  | _ => []
theorem fo_lines {f li ai n : Nat} {ml : Int} {ws : Str} {M : List (Option Str)} (hws : ws.length ≤ 100) : ∀ (ms : List Str) (ln : List (Option Str)) (loc : Locs) (Y : List AC), Y.length = n → Y[f]? = some (.fm ml ws li ai) → Y[li]? = some (.strL ln) → ln.length + ms.length ≤ 1000 → (∀ m ∈ ms, m.length ≤ 900) → loc.lookup (Str.ofString "self") = some (.obj f) →
    ∃ loc', Fo (k + 8) (scA 85) (Str.ofString "line") forBody (fun c => c[n + 1]? = some (.strL M)) (ms.map AV.str) loc (Tl Y f M) loc' (Tl (Y.set li (.strL (ln ++ ms.map fun m => some (ws ++ m)))) f M)
  | [], ln, loc, Y, hY, hf, hli, hb, hm, hs => by
    refine ⟨loc, ?_⟩
    simp only [List.map_nil, List.append_nil]
    rw [set_same hli]
    exact .nil (Tl_last hY)
  | m :: ms, ln, loc, Y, hY, hf, hli, hb, hm, hs => by
    have hln : ln.length ≤ 100000 := by lia
    have hcat : ws.length + m.length ≤ 10000 := by have := hm m (.head _); lia
    have hs2 : (setL (Str.ofString "line") (.str m) loc).lookup (Str.ofString "self") = some (.obj f) := by rw [lookup_setL, if_neg (by decide)]; exact hs
    have hl2 : (setL (Str.ofString "line") (.str m) loc).lookup (Str.ofString "line") = some (.str m) := by rw [lookup_setL, if_pos rfl]
    have nfl : f ≠ li := by rintro rfl; rw [hf] at hli; cases hli
    obtain ⟨loc', ih⟩ := fo_lines (n := n) (M := M) hws ms (ln ++ [some (ws ++ m)]) (setL (Str.ofString "line") (.str m) loc) (Y.set li (.strL (ln ++ [some (ws ++ m)]))) (by simp [hY]) (by rw [List.getElem?_set_ne nfl.symm]; exact hf) (get_set_self hli) (by simp at hb ⊢; lia) (fun m' h' => hm m' (List.mem_cons_of_mem _ h')) hs2
    refine ⟨loc', .cons (Tl_last hY) (cs1 := Tl (Y.set li (.strL (ln ++ [some (ws ++ m)]))) f M) (loc1 := setL (Str.ofString "line") (.str m) loc) ?_ ?_⟩
    · have hf1 := Tl_get (f := f) (m := M) hf
      have hli1 := Tl_get (f := f) (m := M) hli
      have hap := cl_lappS (k := k + 8) (x := ws ++ m) hli1 hln
      rw [Tl_set (lt_of_get hli)] at hap
      refine exs_cons (ex_expr (v := .none) ?_ (fun _ => rfl)) exs_nil
      exact ev_method (by kl_some) (m_lappS hli1) (by kl_some) hap trivial (fun _ => rfl) (fun _ => rfl)
    · have e : (Y.set li (.strL (ln ++ [some (ws ++ m)]))).set li (.strL (ln ++ [some (ws ++ m)] ++ ms.map fun m => some (ws ++ m))) = Y.set li (.strL (ln ++ (m :: ms).map fun m => some (ws ++ m))) := by
        rw [List.set_set]; simp
      rw [e] at ih
      exact ih
theorem map_ofO (ms : List Str) : (ms.map some).map ofO = ms.map AV.str := by simp [ofO, List.map_map]
theorem feed1_end {f li ai : Nat} {ml init : Int} {ws : Str} {ln : List (Option Str)} {l : List (Str × Str)} {last : Str} {mid : List Str} {loc : Locs} (hf : cs[f]? = some (.fm ml ws li ai)) (hli : cs[li]? = some (.strL ln)) (hai : cs[ai]? = some (.acc l init)) (hcl : ∀ ac ∈ cs, Closed cs.length ac)
    (hl : ∀ p ∈ l, p.1.length + p.2.length ≤ 1000) (hn : l.length ≤ 100) (hi : 0 ≤ init ∧ init ≤ 1000) (hln : ln.length + mid.length ≤ 900) (hs : init = 0 → 0 < init + accLen (nlAcc l) → Txt.isspace (accStr (nlAcc l)) = false) (hok : ∀ p ∈ l, PyData.strOk p.1 = true ∧ PyData.strOk p.2 = true)
    (hws : ws.length ≤ 100) (hmid : ∀ m ∈ mid, m.length ≤ 900) (hself : loc.lookup (Str.ofString "self") = some (.obj f)) (hel : loc.lookup (Str.ofString "encoded_lines") = some (.obj (cs.length + 1))) :
    ∃ loc', Exs (k + 8) (scA 85) loc (Tl cs f ((mid ++ [last]).map some)) ((bodyA 85).drop 4) .next loc'
      (Tl (((cs.set li (.strL ((if 0 < init + accLen (nlAcc l) then ln ++ [some (accStr (nlAcc l))] else ln) ++ mid.map fun m => some (ws ++ m)))).set ai (.acc [(ws, last)] 0))) f (mid.map some)) := by
  have nla : li ≠ ai := by rintro rfl; rw [hli] at hai; cases hai
  have nfa : f ≠ ai := by rintro rfl; rw [hf] at hai; cases hai
  have nfl : f ≠ li := by rintro rfl; rw [hf] at hli; cases hli
  have hlf := lt_of_get hf
  have hlli := lt_of_get hli
  have hlai := lt_of_get hai
  let ln2 := if 0 < init + accLen (nlAcc l) then ln ++ [some (accStr (nlAcc l))] else ln
  have hln2 : ln2.length ≤ ln.length + 1 := by
    show (if _ then _ else _ : List (Option Str)).length ≤ _
    split
    · simp
    · lia
  -- last_line = encoded_lines.pop()
  have h1 : (Tl cs f (mid.map some ++ [some last]))[cs.length + 1]? = some (.strL (mid.map some ++ [some last])) := Tl_last rfl
  have hp := cl_lpop (k := k + 8) h1 (by simp; lia)
  rw [Tl_setLast rfl] at hp
  have hp : Cl (k + 8) (Tl cs f (mid.map some ++ [some last])) (.builtin "list.pop") [.obj (cs.length + 1)] (.str last) (Tl cs f (mid.map some)) := hp
  -- newline
  have hf2 := Tl_get (f := f) (m := mid.map some) hf
  have hli2 := Tl_get (f := f) (m := mid.map some) hli
  have hai2 := Tl_get (f := f) (m := mid.map some) hai
  have hnl := cl_newline (k := k + 2) hf2 hli2 hai2 (Tl_closed hcl hlf) hl hn hi (by lia) hs hok
  rw [Tl_set hlli, Tl_set (by simpa using hlai)] at hnl
  -- push
  let cs2 := (cs.set li (.strL ln2)).set ai (.acc [] 0)
  have hf3 : (Tl cs2 f (mid.map some))[f]? = some (.fm ml ws li ai) := Tl_get (by show ((cs.set li _).set ai _)[f]? = _; rw [List.getElem?_set_ne nfa.symm, List.getElem?_set_ne nfl.symm]; exact hf)
  have hai3 : (Tl cs2 f (mid.map some))[ai]? = some (.acc [] 0) := Tl_get (List.getElem?_set_self (by simpa using hlai))
  have hpu := cl_push (k := k + 7) (x := ws) (y := last) hai3 (by decide)
  have e3 : (Tl cs2 f (mid.map some)).set ai (.acc ([] ++ [(ws, last)]) 0) = Tl ((cs.set li (.strL ln2)).set ai (.acc [(ws, last)] 0)) f (mid.map some) := by
    rw [Tl_set (by show ai < ((cs.set li _).set ai _).length; simpa using hlai)]
    show Tl (((cs.set li _).set ai _).set ai _) f _ = _
    rw [List.set_set]; rfl
  rw [e3] at hpu
  -- the loop
  let cs3 := (cs.set li (.strL ln2)).set ai (.acc [(ws, last)] 0)
  have hf4 : cs3[f]? = some (.fm ml ws li ai) := by show ((cs.set li _).set ai _)[f]? = _; rw [List.getElem?_set_ne nfa.symm, List.getElem?_set_ne nfl.symm]; exact hf
  have hli4 : cs3[li]? = some (.strL ln2) := by show ((cs.set li _).set ai _)[li]? = _; rw [List.getElem?_set_ne nla.symm]; exact get_set_self hli
  have hlen4 : cs3.length = cs.length := by simp [cs3]
  have hs2 : (setL (Str.ofString "last_line") (.str last) loc).lookup (Str.ofString "self") = some (.obj f) := by rw [lookup_setL, if_neg (by decide)]; exact hself
  have he2 : (setL (Str.ofString "last_line") (.str last) loc).lookup (Str.ofString "encoded_lines") = some (.obj (cs.length + 1)) := by rw [lookup_setL, if_neg (by decide)]; exact hel
  have hla2 : (setL (Str.ofString "last_line") (.str last) loc).lookup (Str.ofString "last_line") = some (.str last) := by rw [lookup_setL, if_pos rfl]
  obtain ⟨loc', F⟩ := fo_lines (k := k) (ai := ai) (ml := ml) (n := cs.length) (M := mid.map some) hws mid ln2 (setL (Str.ofString "last_line") (.str last) loc) cs3 hlen4 hf4 hli4 (by lia) hmid hs2
  have e5 : cs3.set li (.strL (ln2 ++ mid.map fun m => some (ws ++ m))) = (cs.set li (.strL (ln2 ++ mid.map fun m => some (ws ++ m)))).set ai (.acc [(ws, last)] 0) := by
    show ((cs.set li _).set ai _).set li _ = _
    rw [List.set_comm _ _ nla.symm, List.set_set]
  rw [e5] at F
  rw [← map_ofO] at F
  refine ⟨loc', ?_⟩
  have em : (mid ++ [last]).map some = mid.map some ++ [some last] := by simp
  rw [em]
  refine exs_cons (ex_tryOK (loc1 := setL (Str.ofString "last_line") (.str last) loc) (cs1 := Tl cs f (mid.map some)) (exs_cons (ex_assign (ev_method (ev_local rfl hel rfl) (m_lpop h1) evl_nil hp trivial (fun _ => rfl) (fun _ => rfl)) rfl (fun _ => rfl)) exs_nil)) ?_
  refine exs_cons (loc1 := setL (Str.ofString "last_line") (.str last) loc) (cs1 := Tl cs2 f (mid.map some)) (ex_expr (v := .none) (ev_method (ev_local rfl hs2 rfl) (m_newline hf2) evl_nil hnl cal71 (fun _ => rfl) (fun _ => rfl)) (fun _ => rfl)) ?_
  refine exs_cons (loc1 := setL (Str.ofString "last_line") (.str last) loc) (cs1 := Tl cs3 f (mid.map some)) (ex_expr (v := .none) (ev_method (by kl_some) (m_push hai3) (by kl_some) hpu cal137 (fun _ => rfl) (fun _ => rfl)) (fun _ => rfl)) ?_
  refine exs_cons (loc1 := loc') (ex_forList (ev_local rfl he2 rfl) rfl (ac_strL (mid.map some)) F (fun _ _ => rfl)) exs_nil
theorem cl_feed1 {f li ai co : Nat} {ml init : Int} {ws : Str} {ln : List (Option Str)} {l : List (Str × Str)} {text last : Str} {mid : List Str} (o : Option Str) (hf : cs[f]? = some (.fm ml ws li ai)) (hli : cs[li]? = some (.strL ln)) (hai : cs[ai]? = some (.acc l init)) (hco : cs[co]? = some .coder) (hcl : ∀ ac ∈ cs, Closed cs.length ac)
    (hl : ∀ p ∈ feedAcc l (Str.ofString "") o, p.1.length + p.2.length ≤ 1000) (hn : l.length ≤ 99) (hi : 0 ≤ init ∧ init ≤ 1000) (hfit : ∀ w, o = some w → init + accLen (l ++ [(Str.ofString "", w)]) ≤ ml) (hln : ln.length + mid.length ≤ 900)
    (hs : init = 0 → 0 < init + accLen (nlAcc (feedAcc l (Str.ofString "") o)) → Txt.isspace (accStr (nlAcc (feedAcc l (Str.ofString "") o))) = false) (hok : ∀ p ∈ feedAcc l (Str.ofString "") o, PyData.strOk p.1 = true ∧ PyData.strOk p.2 = true)
    (hws : ws.length ≤ 100) (hmid : ∀ m ∈ mid, m.length ≤ 900)
    (hw : Cl (k + 8) (cs ++ [.gen f false]) (.ref 246) [.str text, .obj cs.length] (.obj (cs.length + 1)) (Tl cs f (o :: (mid ++ [last]).map some))) :
    Cl (k + 9) cs (.ref 85) [.obj f, .str (Str.ofString ""), .str text, .obj co] .none
      ((cs.set li (.strL ((if 0 < init + accLen (nlAcc (feedAcc l (Str.ofString "") o)) then ln ++ [some (accStr (nlAcc (feedAcc l (Str.ofString "") o)))] else ln) ++ mid.map fun m => some (ws ++ m)))).set ai (.acc [(ws, last)] 0)) := by
  have nla : li ≠ ai := by rintro rfl; rw [hli] at hai; cases hai
  have hlf := lt_of_get hf
  refine Tl_cut (f := f) (m := mid.map some) ?_ (by simp) (Closed.all (Closed.all hcl trivial) trivial) (fun i e => by cases e)
  apply cl_bf .next (fun P => fn85 P) rfl
  apply bf_ifNF (cs1 := cs) (tst_cmpc (a := .int 1) (b := .none) (v := false) (by kl_some) ev_none (cmp_isNone (.int 1) (fun u e => by cases e)).c rfl) exs_nil
  have hmx : Cl (k + 8) cs (.ref 92) [.obj f] (.obj cs.length) (cs ++ [.gen f false]) := cl_maxl
  apply bf_cons (cs1 := Tl cs f (o :: (mid ++ [last]).map some)) (ex_assign (ev_methodF (mf_lines hco) (by kl_some) (evl_cons (by kl_some) (evl_cons (by kl_some) evl_nil (fun _ => rfl)) (fun _ => rfl)) hw cal246 (fun _ => rfl) (fun _ => rfl)) rfl (fun _ => rfl))
  have h1 : (Tl cs f (o :: (mid ++ [last]).map some))[cs.length + 1]? = some (.strL (o :: (mid ++ [last]).map some)) := Tl_last rfl
  have hp := cl_lpop0 (k := k + 8) h1 (by simp; lia)
  rw [Tl_setLast rfl] at hp
  have hf3 := Tl_get (f := f) (m := (mid ++ [last]).map some) hf
  cases o with
  | none =>
    have hp : Cl (k + 8) (Tl cs f (none :: (mid ++ [last]).map some)) (.builtin "list.pop") [.obj (cs.length + 1), .int 0] .none (Tl cs f ((mid ++ [last]).map some)) := hp
    apply bf_cons (cs1 := Tl cs f ((mid ++ [last]).map some)) (ex_tryOK (exs_cons (ex_assign (ev_method (by kl_some) (m_lpop h1) (by kl_some) hp trivial (fun _ => rfl) (fun _ => rfl)) rfl (fun _ => rfl)) exs_nil))
    apply bf_ifNF (cs1 := Tl cs f ((mid ++ [last]).map some)) (tst_cmpc (a := .none) (b := .none) (v := false) (by kl_some) ev_none (cmp_notNone .none (fun u e => by cases e)).c rfl) exs_nil
    exact feed1_end hf hli hai hcl hl (by simp only [feedAcc]; lia) hi hln hs hok hws hmid rfl rfl
  | some w =>
    have hp : Cl (k + 8) (Tl cs f (some w :: (mid ++ [last]).map some)) (.builtin "list.pop") [.obj (cs.length + 1), .int 0] (.str w) (Tl cs f ((mid ++ [last]).map some)) := hp
    apply bf_cons (cs1 := Tl cs f ((mid ++ [last]).map some)) (ex_tryOK (exs_cons (ex_assign (ev_method (by kl_some) (m_lpop h1) (by kl_some) hp trivial (fun _ => rfl) (fun _ => rfl)) rfl (fun _ => rfl)) exs_nil))
    have hch := cl_chunk (k := k + 4) (x := Str.ofString "") (y := w) hf3 (Tl_get (f := f) (m := (mid ++ [last]).map some) hai) hl (by lia) hi (hfit w rfl)
    rw [Tl_set (lt_of_get hai)] at hch
    apply bf_ifNT (cs1 := Tl cs f ((mid ++ [last]).map some)) (tst_cmpc (a := .str w) (b := .none) (v := true) (by kl_some) ev_none (cmp_notNone (.str w) (fun u e => by cases e)).c rfl) (exs_cons (ex_expr (by kl_some) (fun _ => rfl)) exs_nil)
    have nfa : f ≠ ai := by rintro rfl; rw [hf] at hai; cases hai
    have fin := feed1_end (k := k) (cs := cs.set ai (.acc (l ++ [(Str.ofString "", w)]) init)) (f := f) (li := li) (ai := ai) (ml := ml) (init := init) (ws := ws) (ln := ln) (l := l ++ [(Str.ofString "", w)]) (last := last) (mid := mid)
      (loc := setL (Str.ofString "first_line") (.str w) (setL (Str.ofString "encoded_lines") (.obj (cs.length + 1)) ([Str.ofString "self", Str.ofString "fws", Str.ofString "string", Str.ofString "charset"].zip [.obj f, .str (Str.ofString ""), .str text, .obj co])))
      (by rw [List.getElem?_set_ne nfa.symm]; exact hf) (by rw [List.getElem?_set_ne nla.symm]; exact hli) (get_set_self hai) (Closed.all hcl trivial) hl (by simp; lia) hi hln hs hok hws hmid rfl (by simp; rfl)
    have e : ((cs.set ai (.acc (l ++ [(Str.ofString "", w)]) init)).set li (.strL ((if 0 < init + accLen (nlAcc (l ++ [(Str.ofString "", w)])) then ln ++ [some (accStr (nlAcc (l ++ [(Str.ofString "", w)])))] else ln) ++ mid.map fun m => some (ws ++ m)))).set ai (.acc [(ws, last)] 0) =
        (cs.set li (.strL ((if 0 < init + accLen (nlAcc (l ++ [(Str.ofString "", w)])) then ln ++ [some (accStr (nlAcc (l ++ [(Str.ofString "", w)])))] else ln) ++ mid.map fun m => some (ws ++ m)))).set ai (.acc [(ws, last)] 0) := by
      rw [List.set_comm _ _ nla.symm, List.set_set]
    rw [e] at fin
    exact fin
end
end
local macro_rules | `(tactic| k_units) => `(tactic| with_reducible first
  | (apply it_str <;> assumption)
  | fail "none")
local macro_rules | `(tactic| ki_room) => `(tactic| with_reducible first
  | (apply cl_unctrl <;> assumption)
  | fail "none")
section
open PySem PySem.W PyProof.Rows PySem.Calls
noncomputable def takeW (room : Int) : Str → List Nat → Str × List Nat
  | w, [] => (w, [])
  | w, c :: r => if (w.length : Int) + (unF c).length + 2 ≤ room then takeW room (w ++ unF c) r else (w, c :: r)
noncomputable def tell (w : Str) : Option Str := if w = Str.ofString "" then none else some (⟨#[171]⟩ ++ w ++ ⟨#[187]⟩)
noncomputable def wordsT (r1 : Int) : Nat → List Nat → List (Option Str)
  | 0, _ => []
  | _ + 1, [] => []
  | n + 1, c :: r => tell (takeW r1 (Str.ofString "") (c :: r)).1 :: wordsT r1 n (takeW r1 (Str.ofString "") (c :: r)).2
theorem unF_len (c : Nat) : (unF c).length ≤ 3 := by
  unfold unF
  split
  · rw [Str.length_append]; have := unR_len c; have e : (Str.ofString "!").length = 1 := rfl; lia
  · have := unR_len c; lia
theorem takeW_suffix (room : Int) : ∀ codes w, ∃ pre, codes = pre ++ (takeW room w codes).2 ∧ (takeW room w codes).1.length ≤ w.length + 3 * pre.length
  | [], w => ⟨[], rfl, Nat.le_refl _⟩
  | c :: r, w => by
    unfold takeW
    split
    · obtain ⟨pre, e, hl⟩ := takeW_suffix room r (w ++ unF c)
      refine ⟨c :: pre, by rw [List.cons_append, ← e], ?_⟩
      have := unF_len c
      rw [Str.length_append] at hl
      simp only [List.length_cons]; lia
    · exact ⟨[], rfl, by simp⟩
noncomputable def whOf (l : List Stmt) : Expr × List Stmt := match l with
  | .While t b _ _ :: _ => (t, b)
  | _ => (.Constant .none 0 default, [])
noncomputable def wOut : Expr × List Stmt := whOf ((bodyA 246).drop 2)
noncomputable def wIn : Expr × List Stmt := whOf (wOut.2.drop 2)
theorem lk_ne {x y : Str} {v : AV} {loc : Locs} {r : Option AV} (h : x ≠ y) (e : loc.lookup x = r) : (setL y v loc).lookup x = r := by rw [lookup_setL, if_neg h]; exact e
theorem lk_eq {x : Str} {v : AV} {loc : Locs} : (setL x v loc).lookup x = some v := by rw [lookup_setL, if_pos rfl]
structure LW (loc : Locs) (T : Str) (g t : Nat) (room : Int) (at_ : Nat) (w : Str) : Prop where
  text : loc.lookup (Str.ofString "text") = some (.str T)
  rooms : loc.lookup (Str.ofString "rooms") = some (.obj g)
  told : loc.lookup (Str.ofString "told") = some (.obj t)
  room : loc.lookup (Str.ofString "room") = some (.int room)
  at_ : loc.lookup (Str.ofString "at") = some (.int at_)
  word : loc.lookup (Str.ofString "word") = some (.str w)
section
variable {k : Nat} {cs : List AC}
theorem inner {T : Str} {g t : Nat} {room : Int} (hT : ∀ c ∈ T.cps.toList, c < 256) (hlen : T.length ≤ 1000) : ∀ (codes pre : List Nat) (w : Str) (loc : Locs), T.cps.toList = pre ++ codes → w.length + 3 * codes.length ≤ 9000 → LW loc T g t room pre.length w →
    ∃ n loc', Wh (k + 5) (scA 246) wIn.1 wIn.2 n loc cs loc' cs ∧ LW loc' T g t room (T.length - (takeW room w codes).2.length) (takeW room w codes).1
  | [], pre, w, loc, e, hw, L => by
    have hl : T.length = pre.length := by
      show T.cps.size = _
      rw [← Array.length_toList, e]; simp
    have l1 := L.text
    have l2 := L.at_
    have hx : T.length ≤ 100000 := by lia
    refine ⟨0, loc, .stop (tst_and_f (tst_eq (b := decide ((pre.length : Int) < T.length)) (by kl_some) (by simp; lia))), ?_⟩
    simp only [takeW, List.length_nil]
    have : T.length - 0 = pre.length := by lia
    rw [this]; exact L
  | c :: r, pre, w, loc, e, hw, L => by
    have hlT : T.length = pre.length + (r.length + 1) := by
      show T.cps.size = _
      rw [← Array.length_toList, e]; simp
    have hc : T.cps[((pre.length : Nat) : Int).toNat]? = some c := by
      rw [← Array.getElem?_toList, e, Int.toNat_natCast]; simp
    have h256 : c < 256 := hT c (by rw [e]; simp)
    have h0 : (0 : Int) ≤ (pre.length : Nat) := by lia
    have h1 : ((pre.length : Nat) : Int) ≤ 100000 := by lia
    have hx : T.length ≤ 100000 := by lia
    have hul := unF_len c
    have hu : (unF c).length ≤ 100000 := by lia
    simp only [List.length_cons] at hw
    have hwl : w.length ≤ 100000 := by lia
    have hcat : w.length + (unF c).length ≤ 10000 := by lia
    have l1 := L.text
    have l2 := L.at_
    have l3 := L.word
    have l4 := L.room
    by_cases hr : (w.length : Int) + (unF c).length + 2 ≤ room
    · have hsz : (w ++ unF c).length = w.length + (unF c).length := Str.length_append _ _
      have L2 : LW (setL (Str.ofString "at") (.int ((pre ++ [c]).length : Nat)) (setL (Str.ofString "word") (.str (w ++ unF c)) loc)) T g t room (pre ++ [c]).length (w ++ unF c) := by
        exact ⟨lk_ne (by decide) (lk_ne (by decide) L.text), lk_ne (by decide) (lk_ne (by decide) L.rooms), lk_ne (by decide) (lk_ne (by decide) L.told), lk_ne (by decide) (lk_ne (by decide) L.room), lk_eq, lk_ne (by decide) lk_eq⟩
      refine hideG fun Gq hGq => ?_
      obtain ⟨n, loc', W, L'⟩ := inner hT hlen r (pre ++ [c]) (w ++ unF c) _ (by rw [e]; simp) (by lia) L2
      refine hGq ?_
      clear hGq Gq
      have et : takeW room w (c :: r) = takeW room (w ++ unF c) r := by rw [takeW, if_pos hr]
      rw [et]
      refine ⟨n + 1, loc', .turn (tst_and_t (tst_eq (b := decide ((pre.length : Int) < T.length)) (by kl_some) (by simp; lia)) (tst_eq (b := decide ((w.length : Int) + (unF c).length + 2 ≤ room)) (by kl_some) (by simpa using hr))) ?_ W, L'⟩
      have l2' : (setL (Str.ofString "word") (.str (w ++ unF c)) loc).lookup (Str.ofString "at") = some (.int (pre.length : Nat)) := lk_ne (by decide) l2
      have ea : ((pre ++ [c]).length : Nat) = (pre.length : Int) + 1 := by simp
      rw [ea]
      refine exs_cons (ex_assign (by kl_some) rfl (fun _ => rfl)) (exs_cons (ex_assign (ev_bin (ev_local rfl l2' rfl) ev_int (bin_add _ _)) rfl (fun _ => rfl)) exs_nil)
    · have et : takeW room w (c :: r) = (w, c :: r) := by rw [takeW, if_neg hr]
      rw [et]
      refine ⟨0, loc, .stop (tst_and_t (tst_eq (b := decide ((pre.length : Int) < T.length)) (by kl_some) (by simp; lia)) (tst_eq (b := decide ((w.length : Int) + (unF c).length + 2 ≤ room)) (by kl_some) (by simpa using hr))), ?_⟩
      have : T.length - (c :: r).length = pre.length := by simp; lia
      rw [this]; exact L
structure LO (loc : Locs) (T : Str) (g t : Nat) (at_ : Nat) : Prop where
  text : loc.lookup (Str.ofString "text") = some (.str T)
  rooms : loc.lookup (Str.ofString "rooms") = some (.obj g)
  told : loc.lookup (Str.ofString "told") = some (.obj t)
  at_ : loc.lookup (Str.ofString "at") = some (.int at_)
theorem LW.lo {loc T g t room at_ w} (L : LW loc T g t room at_ w) : LO loc T g t at_ := ⟨L.text, L.rooms, L.told, L.at_⟩
theorem tell_ne {w : Str} (h : w ≠ Str.ofString "") : tell w = some (⟨#[171]⟩ ++ w ++ ⟨#[187]⟩) := if_neg h
theorem outer_turn {T : Str} {g t : Nat} {room : Int} {X X1 : List AC} {tl : List (Option Str)} {codes pre : List Nat} {loc : Locs} (hT : ∀ c ∈ T.cps.toList, c < 256) (hlen : T.length ≤ 1000) (e : T.cps.toList = pre ++ codes) (L : LO loc T g t pre.length)
    (hnext : Cl (k + 5) X (.builtin "next") [.obj g] (.int room) X1) (ht : X1[t]? = some (.strL tl)) (htl : tl.length ≤ 1000) :
    ∃ loc', Exs (k + 5) (scA 246) loc X wOut.2 .next loc' (X1.set t (.strL (tl ++ [tell (takeW room (Str.ofString "") codes).1]))) ∧ LO loc' T g t (T.length - (takeW room (Str.ofString "") codes).2.length) := by
  have hcl : codes.length ≤ T.length := by
    show _ ≤ T.cps.size
    rw [← Array.length_toList, e]; simp
  have hl' : tl.length ≤ 100000 := by lia
  have l1 := L.rooms
  have L2 : LW (setL (Str.ofString "word") (.str (Str.ofString "")) (setL (Str.ofString "room") (.int room) loc)) T g t room pre.length (Str.ofString "") :=
    ⟨lk_ne (by decide) (lk_ne (by decide) L.text), lk_ne (by decide) (lk_ne (by decide) L.rooms), lk_ne (by decide) (lk_ne (by decide) L.told), lk_ne (by decide) lk_eq, lk_ne (by decide) (lk_ne (by decide) L.at_), lk_eq⟩
  refine hideG fun Gq hGq => ?_
  obtain ⟨n, loc', W, L'⟩ := inner (k := k) (cs := X1) hT hlen codes pre (Str.ofString "") _ e (by show 0 + _ ≤ _; lia) L2
  refine hGq ?_
  clear hGq Gq
  refine ⟨loc', ?_, L'.lo⟩
  have lw := L'.word
  have lt := L'.told
  obtain ⟨pre2, ep, hpl⟩ := takeW_suffix room codes (Str.ofString "")
  have hp2 : pre2.length ≤ codes.length := by rw [ep]; simp
  have h0 : (Str.ofString "").length = 0 := rfl
  have hwl : (takeW room (Str.ofString "") codes).1.length ≤ 3000 := by lia
  generalize (takeW room (Str.ofString "") codes).1 = w' at lw hwl ⊢
  refine exs_cons (ex_assign (by kl_some) rfl (fun _ => rfl)) (exs_cons (ex_assign (by kl_some) rfl (fun _ => rfl)) (exs_cons (ex_while W) (exs_cons ?_ exs_nil)))
  by_cases hw : w' = Str.ofString ""
  · have et : tell w' = none := if_pos hw
    rw [et]
    refine ex_expr (v := .none) (ev_method (by kl_some) (m_lappS ht) (evl_cons (ev_ifF (tst_eq (by kl_some) (by simp [hw])) ev_none) evl_nil (fun _ => rfl)) (cl_lappN ht hl') trivial (fun _ => rfl) (fun _ => rfl)) (fun _ => rfl)
  · rw [tell_ne hw]
    have c1 : (⟨#[171]⟩ : Str).length + w'.length ≤ 10000 := by show 1 + _ ≤ _; lia
    have c2 : ((⟨#[171]⟩ : Str) ++ w').length + (⟨#[187]⟩ : Str).length ≤ 10000 := by rw [Str.length_append]; show 1 + _ + 1 ≤ _; lia
    refine ex_expr (v := .none) (ev_method (by kl_some) (m_lappS ht) (evl_cons (v := .str (⟨#[171]⟩ ++ w' ++ ⟨#[187]⟩)) (ev_ifT (tst_eq (by kl_some) (by simp [hw])) ?_) evl_nil (fun _ => rfl)) (cl_lappS ht hl') trivial (fun _ => rfl) (fun _ => rfl)) (fun _ => rfl)
    exact ev_bin (ev_bin (ev_call (ev_stat rfl gl_chr rfl) (by kl_some) (pcl_chr 171 (by decide) (by decide)).cl trivial (fun _ => rfl)) (ev_local rfl lw rfl) (bin_cat _ _ c1)) (ev_call (ev_stat rfl gl_chr rfl) (by kl_some) (pcl_chr 187 (by decide) (by decide)).cl trivial (fun _ => rfl)) (bin_cat _ _ c2)
theorem takeW_less {room : Int} (h5 : 5 ≤ room) (c : Nat) (r : List Nat) : ∃ pre, c :: r = pre ++ (takeW room (Str.ofString "") (c :: r)).2 ∧ (takeW room (Str.ofString "") (c :: r)).2.length ≤ r.length := by
  have hu := unF_len c
  have h0 : (Str.ofString "").length = 0 := rfl
  have et : takeW room (Str.ofString "") (c :: r) = takeW room (Str.ofString "" ++ unF c) r := by rw [takeW, if_pos (by lia)]
  obtain ⟨pre, e, _⟩ := takeW_suffix room r (Str.ofString "" ++ unF c)
  rw [et]
  refine ⟨c :: pre, by rw [List.cons_append, ← e], ?_⟩
  have := congrArg List.length e
  rw [List.length_append] at this
  lia
theorem outTst {T : Str} {at_ : Int} {loc : Locs} (l1 : loc.lookup (Str.ofString "text") = some (.str T)) (l2 : loc.lookup (Str.ofString "at") = some (.int at_)) (hx : T.length ≤ 100000) : Tst (k + 5) (scA 246) loc cs wOut.1 (decide (at_ < T.length)) cs :=
  tst_cmpc (a := .int at_) (b := .int T.length) (by kl_some) (by kl_some) (cmp_ltI _ _).c rfl
theorem outer {T : Str} {g t f li ai : Nat} {ml : Int} {ws : Str} (hT : ∀ c ∈ T.cps.toList, c < 256) (hlen : T.length ≤ 1000) (h5 : 5 ≤ ml - ws.length) : ∀ (m : Nat) (codes pre : List Nat) (tl : List (Option Str)) (loc : Locs) (X : List AC), codes.length ≤ m → T.cps.toList = pre ++ codes → LO loc T g t pre.length →
    X[g]? = some (.gen f true) → X[f]? = some (.fm ml ws li ai) → X[t]? = some (.strL tl) → (∀ j ac, X[j]? = some ac → j ≠ g → Still ac) → tl.length + codes.length ≤ 1000 →
    ∃ n loc', Wh (k + 5) (scA 246) wOut.1 wOut.2 n loc X loc' (X.set t (.strL (tl ++ wordsT (ml - ws.length) m codes))) ∧ loc'.lookup (Str.ofString "told") = some (.obj t)
  | m, [], pre, tl, loc, X, hm, e, L, hg, hf, ht, hst, hb => by
    have hl : T.length = pre.length := by
      show T.cps.size = _
      rw [← Array.length_toList, e]; simp
    have ew : wordsT (ml - ws.length) m [] = [] := by cases m <;> rfl
    have l1 := L.text
    have l2 := L.at_
    have hx : T.length ≤ 100000 := by lia
    rw [ew, List.append_nil, set_same ht]
    exact ⟨0, loc, .stop (tst_eq (outTst l1 l2 hx) (by simp; lia)), L.told⟩
  | 0, c :: r, pre, tl, loc, X, hm, e, L, hg, hf, ht, hst, hb => by simp at hm
  | m + 1, c :: r, pre, tl, loc, X, hm, e, L, hg, hf, ht, hst, hb => by
    have hlT : T.length = pre.length + (r.length + 1) := by
      show T.cps.size = _
      rw [← Array.length_toList, e]; simp
    have l1 := L.text
    have l2 := L.at_
    have hx : T.length ≤ 100000 := by lia
    simp only [List.length_cons] at hm hb
    have hnx : Cl (k + 5) X (.builtin "next") [.obj g] (.int (ml - ws.length)) X := by
      have := cl_next2 (k := k + 2) hg hf hst
      rwa [set_same hg] at this
    refine hideG fun Gq hGq => ?_
    obtain ⟨loc1, E1, L1⟩ := outer_turn (k := k) hT hlen e L hnx ht (by lia)
    obtain ⟨pre2, ep, hless⟩ := takeW_less h5 c r
    refine hGq ?_
    clear hGq Gq
    have hgt : g ≠ t := by rintro rfl; rw [hg] at ht; cases ht
    have hft : f ≠ t := by rintro rfl; rw [hf] at ht; cases ht
    have e2 : T.cps.toList = (pre ++ pre2) ++ (takeW (ml - ws.length) (Str.ofString "") (c :: r)).2 := by rw [List.append_assoc, ← ep]; exact e
    have hlT2 : T.length = (pre ++ pre2).length + (takeW (ml - ws.length) (Str.ofString "") (c :: r)).2.length := by
      show T.cps.size = _
      rw [← Array.length_toList, e2, List.length_append]
    obtain ⟨n, loc', W, h'⟩ := outer hT hlen h5 m (takeW (ml - ws.length) (Str.ofString "") (c :: r)).2 (pre ++ pre2) (tl ++ [tell (takeW (ml - ws.length) (Str.ofString "") (c :: r)).1]) loc1 (X.set t (.strL (tl ++ [tell (takeW (ml - ws.length) (Str.ofString "") (c :: r)).1]))) (by lia) e2
      (by have : T.length - (takeW (ml - ws.length) (Str.ofString "") (c :: r)).2.length = (pre ++ pre2).length := by lia
          rw [← this]; exact L1)
      (by rw [List.getElem?_set_ne hgt.symm]; exact hg) (by rw [List.getElem?_set_ne hft.symm]; exact hf) (get_set_self ht)
      (fun j ac hj hne => by
        by_cases hjt : t = j
        · subst hjt; rw [get_set_self ht] at hj; cases hj; trivial
        · rw [List.getElem?_set_ne hjt] at hj; exact hst j ac hj hne)
      (by simp; lia)
    rw [List.set_set] at W
    have ew : tl ++ wordsT (ml - ws.length) (m + 1) (c :: r) = tl ++ [tell (takeW (ml - ws.length) (Str.ofString "") (c :: r)).1] ++ wordsT (ml - ws.length) m (takeW (ml - ws.length) (Str.ofString "") (c :: r)).2 := by simp [wordsT]
    rw [ew]
    exact ⟨n + 1, loc', .turn (tst_eq (outTst l1 l2 hx) (by simp; lia)) E1 W, h'⟩

noncomputable def wordsF (r0 r1 : Int) (codes : List Nat) : List (Option Str) := tell (takeW r0 (Str.ofString "") codes).1 :: wordsT r1 codes.length (takeW r0 (Str.ofString "") codes).2
theorem cl_words {T : Str} {f li ai g : Nat} {ml init : Int} {ws : Str} {l : List (Str × Str)} (hT : ∀ c ∈ T.cps.toList, c < 256) (hlen : T.length ≤ 500) (hne : T.cps.toList ≠ []) (h5 : 5 ≤ ml - ws.length) (hg : cs[g]? = some (.gen f false)) (hf : cs[f]? = some (.fm ml ws li ai)) (hai : cs[ai]? = some (.acc l init))
    (hl : ∀ p ∈ l, p.1.length + p.2.length ≤ 1000) (hn : l.length ≤ 1000) (hi : 0 ≤ init ∧ init ≤ 1000) (hst : ∀ j ac, cs[j]? = some ac → j ≠ g → Still ac) :
    Cl (k + 6) cs (.ref 246) [.str T, .obj g] (.obj cs.length) (cs.set g (.gen f true) ++ [.strL (wordsF (ml - (init + accLen l)) (ml - ws.length) T.cps.toList)]) := by
  have hlg := lt_of_get hg
  apply cl_bf (.ret (.obj cs.length)) (fun P => fn246 P) rfl
  apply bf_cons (ex_assign (ev_listS (l := []) evl_nil (by decide)) rfl (fun _ => rfl))
  apply bf_cons (ex_assign ev_int rfl (fun _ => rfl))
  have L : LO (setL (Str.ofString "at") (.int ((([] : List Nat).length : Nat))) (setL (Str.ofString "told") (.obj cs.length) ([Str.ofString "text", Str.ofString "rooms"].zip [.str T, .obj g]))) T g cs.length ([] : List Nat).length := ⟨rfl, rfl, rfl, rfl⟩
  have hg1 := get_append (x := AC.strL []) hg
  have hf1 := get_append (x := AC.strL []) hf
  have ha1 := get_append (x := AC.strL []) hai
  have hst1 : ∀ j ac, (cs ++ [AC.strL []])[j]? = some ac → j ≠ g → Still ac := by
    intro j ac hj hne'
    by_cases hlt : j < cs.length
    · rw [List.getElem?_append_left hlt] at hj; exact hst j ac hj hne'
    · rw [List.getElem?_append_right (by lia)] at hj
      have := List.mem_of_getElem? hj
      rw [List.mem_singleton] at this; subst this; trivial
  have hnx := cl_next1 (k := k + 2) hg1 hf1 ha1 hl hn hi hst1
  have hset : (cs ++ [AC.strL []]).set g (.gen f true) = cs.set g (.gen f true) ++ [.strL []] := List.set_append_left _ _ hlg
  rw [hset] at hnx
  have hlen2 : (cs.set g (.gen f true)).length = cs.length := by simp
  have hlast : ∀ x : AC, (cs.set g (.gen f true) ++ [x])[cs.length]? = some x := fun x => by rw [List.getElem?_append_right (by simp)]; simp
  have hsl : ∀ x y : AC, (cs.set g (.gen f true) ++ [x]).set cs.length y = cs.set g (.gen f true) ++ [y] := fun x y => by rw [List.set_append_right _ _ (by simp)]; simp
  obtain ⟨loc1, E1, L1⟩ := outer_turn (k := k) (codes := T.cps.toList) (pre := []) hT (by lia) rfl L hnx (hlast _) (by decide)
  rw [hsl] at E1
  obtain ⟨pre2, ep, _⟩ := takeW_suffix (ml - (init + accLen l)) T.cps.toList (Str.ofString "")
  have hTl : T.length = T.cps.toList.length := by show T.cps.size = _; simp
  have hge : (takeW (ml - (init + accLen l)) (Str.ofString "") T.cps.toList).2.length ≤ T.cps.toList.length := by
    have := congrArg List.length ep
    rw [List.length_append] at this
    lia
  have hpl : T.length - (takeW (ml - (init + accLen l)) (Str.ofString "") T.cps.toList).2.length = pre2.length := by
    have := congrArg List.length ep
    rw [List.length_append] at this
    lia
  rw [hpl] at L1
  have hg2 : (cs.set g (.gen f true))[g]? = some (.gen f true) := get_set_self hg
  have gf : g ≠ f := by rintro rfl; rw [hg] at hf; cases hf
  obtain ⟨n, loc', W, h'⟩ := outer (k := k) (g := g) (t := cs.length) (f := f) (li := li) (ai := ai) (ml := ml) (ws := ws) hT (by lia) h5 T.cps.toList.length _ pre2 ([] ++ [tell (takeW (ml - (init + accLen l)) (Str.ofString "") T.cps.toList).1]) loc1
    (cs.set g (.gen f true) ++ [.strL ([] ++ [tell (takeW (ml - (init + accLen l)) (Str.ofString "") T.cps.toList).1])]) hge ep L1 (get_append hg2) (get_append (by rw [List.getElem?_set_ne gf]; exact hf)) (hlast _)
    (fun j ac hj hne' => by
      by_cases hlt : j < cs.length
      · rw [List.getElem?_append_left (by simpa using hlt), List.getElem?_set_ne (fun h => hne' h.symm)] at hj
        exact hst j ac hj hne'
      · rw [List.getElem?_append_right (by simp; lia)] at hj
        have := List.mem_of_getElem? hj
        rw [List.mem_singleton] at this; subst this; trivial) (by simp; lia)
  rw [hsl] at W
  have l1 : (setL (Str.ofString "at") (.int ((([] : List Nat).length : Nat))) (setL (Str.ofString "told") (.obj cs.length) ([Str.ofString "text", Str.ofString "rooms"].zip [.str T, .obj g]))).lookup (Str.ofString "text") = some (.str T) := rfl
  have l2 : (setL (Str.ofString "at") (.int ((([] : List Nat).length : Nat))) (setL (Str.ofString "told") (.obj cs.length) ([Str.ofString "text", Str.ofString "rooms"].zip [.str T, .obj g]))).lookup (Str.ofString "at") = some (.int 0) := rfl
  have hx : T.length ≤ 100000 := by lia
  have hpos : 0 < T.length := by
    rw [hTl]; exact List.length_pos_iff.mpr hne
  refine bf_cons (ex_while (.turn (tst_eq (outTst l1 l2 hx) (by simpa using hpos)) E1 W)) ?_
  have ew : [] ++ [tell (takeW (ml - (init + accLen l)) (Str.ofString "") T.cps.toList).1] ++ wordsT (ml - ws.length) T.cps.toList.length (takeW (ml - (init + accLen l)) (Str.ofString "") T.cps.toList).2 = wordsF (ml - (init + accLen l)) (ml - ws.length) T.cps.toList := rfl
  rw [ew]
  exact bf_ret (ev_local rfl h' rfl)
end
end
section
open PySem PySem.W PyProof.Rows PySem.Calls
section
variable {k : Nat} {cs : List AC}
theorem cl_fmStr {f li ai : Nat} {ml init : Int} {ws sep : Str} {ls : List Str} {l : List (Str × Str)} (hf : cs[f]? = some (.fm ml ws li ai)) (hli : cs[li]? = some (.strL (ls.map some))) (hai : cs[ai]? = some (.acc l init)) (hcl : ∀ ac ∈ cs, Closed cs.length ac)
    (hl : ∀ p ∈ l, p.1.length + p.2.length ≤ 1000) (hn : l.length ≤ 100) (hi : 0 ≤ init ∧ init ≤ 1000) (hln : ls.length ≤ 900) (hs : init = 0 → 0 < init + accLen (nlAcc l) → Txt.isspace (accStr (nlAcc l)) = false) (hok : ∀ p ∈ l, PyData.strOk p.1 = true ∧ PyData.strOk p.2 = true)
    (hpos : 0 < init + accLen (nlAcc l)) (hsep : sep.length ≤ 16) (hw : ((ls ++ [accStr (nlAcc l)]).map (·.length)).sum + (ls ++ [accStr (nlAcc l)]).length ≤ 100000) :
    Cl (k + 7) cs (.ref 57) [.obj f, .str sep] (.str (Txt.join sep (ls ++ [accStr (nlAcc l)]))) ((cs.set li (.strL ((ls ++ [accStr (nlAcc l)]).map some))).set ai (.acc [] 0)) := by
  have nla : li ≠ ai := by rintro rfl; rw [hli] at hai; cases hai
  have nfa : f ≠ ai := by rintro rfl; rw [hf] at hai; cases hai
  have nfl : f ≠ li := by rintro rfl; rw [hf] at hli; cases hli
  have hnl := cl_newline (k := k) hf hli hai hcl hl hn hi (by simp; lia) hs hok
  rw [if_pos hpos] at hnl
  have em : ls.map some ++ [some (accStr (nlAcc l))] = (ls ++ [accStr (nlAcc l)]).map some := by simp
  rw [em] at hnl
  apply cl_bf (.ret (.str (Txt.join sep (ls ++ [accStr (nlAcc l)])))) (fun P => fn57 P) rfl
  apply bf_cons (cs1 := (cs.set li (.strL ((ls ++ [accStr (nlAcc l)]).map some))).set ai (.acc [] 0)) (by kt_l_size)
  have hf1 : ((cs.set li (.strL ((ls ++ [accStr (nlAcc l)]).map some))).set ai (.acc [] 0))[f]? = some (.fm ml ws li ai) := by rw [List.getElem?_set_ne nfa.symm, List.getElem?_set_ne nfl.symm]; exact hf
  have hli1 : ((cs.set li (.strL ((ls ++ [accStr (nlAcc l)]).map some))).set ai (.acc [] 0))[li]? = some (.strL ((ls ++ [accStr (nlAcc l)]).map some)) := by rw [List.getElem?_set_ne nla.symm]; exact get_set_self hli
  exact bf_ret (by kl_some)
end
end
section
open PySem PySem.W PyProof.Rows PySem.Calls
section
variable {k : Nat} {sc : Scope} {loc : Locs} {cs : List AC}
theorem bin_divc (a b : Int) (hb : b ≠ 0) (hp : Builtin.divisionGoesByPylong a b = false) : BinOK .FloorDiv (.int a) (.int b) (.int (a.fdiv b)) := bin_div a b hb hp
theorem pick_upto (items : Array Value) (b : Nat) : slicePick items none (some (b : Int)) none = (items.toList.take b).toArray := by
  by_cases h : b ≤ items.size
  · exact slicePick_upto items b h
  · have e : sliceBounds none (some (b : Int)) none items.size = sliceBounds none (some ((items.size : Nat) : Int)) none items.size := by
      simp only [sliceBounds, Option.getD_none]
      have h2 : ¬ ((b : Int) < 0) := by lia
      have h3 : ¬ (((items.size : Nat) : Int) < 0) := by lia
      simp only [h2, h3, if_false, show (1 : Int) > 0 by decide, if_true]
      congr 1
      congr 1; lia
    have e2 : slicePick items none (some (b : Int)) none = slicePick items none (some ((items.size : Nat) : Int)) none := by
      unfold slicePick
      rw [e]
    rw [e2, slicePick_upto items items.size (Nat.le_refl _), List.take_of_length_le (by simp), List.take_of_length_le (by simp; lia)]
theorem pick_last (items : Array Value) : slicePick items none (some (-1)) none = (items.toList.take (items.size - 1)).toArray := by
  have e : sliceBounds none (some (-1)) none items.size = sliceBounds none (some ((items.size - 1 : Nat) : Int)) none items.size := by
    simp only [sliceBounds, Option.getD_none]
    have h3 : ¬ (((items.size - 1 : Nat) : Int) < 0) := by lia
    simp only [h3, if_false, show (-1 : Int) < 0 by decide, show (1 : Int) > 0 by decide, if_true]
    congr 1
    congr 1; lia
  have e2 : slicePick items none (some (-1)) none = slicePick items none (some ((items.size - 1 : Nat) : Int)) none := by
    unfold slicePick
    rw [e]
  rw [e2, slicePick_upto items _ (by lia)]
theorem ev_slice {value hiE : Expr} {p pos : Pos} {i : Nat} {ac ac' : AC} {hi : Int} (h : Ev k sc loc cs value (.obj i) cs) (hh : Ev k sc loc cs hiE (.int hi) cs) (hc : cs[i]? = some ac)
    (hac : ∀ (P : Params) ρ s as, CellAt P ρ s ac as → ∃ a vs, as = [a] ∧ s.heap.IsList a (List.toArray vs) ∧ vs.length ≤ 100000 ∧ ∀ s' b, s'.heap.PlainList b (slicePick (List.toArray vs) none (some hi) none) → CellAt P ρ s' ac' [b])
    (hmono : ∀ (P : Params) ρ ρ' s as, CellAt P ρ s ac' as → ρ <+: ρ' → CellAt P ρ' s ac' as)
    (hev : ∀ env, evalPart (some hiE) env = PySem.eval hiE env) (hnn : ∀ env, evalPart none env = pure .none) (ht : ∀ o r, letTemporaryGo value o r = pure ()) : Ev k sc loc cs (.Subscript value (.Slice none (some hiE) none p) pos) (.obj cs.length) (cs ++ [ac']) := by
  intro w c ρ s O R
  refine wpAny_Subscript_list_slice (wpAny_mono (h w c ρ s O R) (fun ov s1 hq => ?_) fun _ _ x => x) ht
  refine hideG fun Gq hGq => ?_
  obtain ⟨ρ1, P1, a, r, ha, rfl⟩ := hq
  refine hGq ?_
  clear hGq Gq
  rw [hnn]
  refine wpAny_pure ?_
  rw [hev]
  refine wpAny_mono (hh w c ρ1 s1 O P1.rep) (fun vh s2 hq => ?_) fun _ _ x => x
  refine hideG fun Gq hGq => ?_
  obtain ⟨ρ2, P2, t, rfl⟩ := hq
  obtain ⟨a', vs, e, hl, hlen, hmk⟩ := hac _ _ _ _ (P2.rep.cells _ _ _ hc (prefix_get P2.pre ha))
  refine hGq ?_
  clear hGq Gq
  cases e
  refine ⟨a, _, none, some hi, rfl, hl, by simp [sizeLine_eq]; lia, .none, .int hi t, ?_⟩
  have R2 := P2.rep
  have hk : ∀ b o, s2.heap.get? b = some o → ((s2.heap.push { cls := .type "slice", data := .fields #[.none, .int hi t, .none] }).push { cls := .type "list", data := .seq (slicePick (List.toArray vs) none (some hi) none) }).get? b = some o := fun b o e => Heap.get?_push_of_some _ (Heap.get?_push_of_some _ e)
  have hsz : s2.heap.objs.size + 1 = (s2.heap.push { cls := .type "slice", data := .fields #[.none, .int hi t, .none] }).objs.size := (Heap.size_push ..).symm
  have hnew : ((s2.heap.push { cls := .type "slice", data := .fields #[.none, .int hi t, .none] }).push { cls := .type "list", data := .seq (slicePick (List.toArray vs) none (some hi) none) }).PlainList (s2.heap.objs.size + 1) (slicePick (List.toArray vs) none (some hi) none) := ⟨0, by rw [hsz]; exact Heap.get?_push_size _ rfl⟩
  refine ⟨ρ2 ++ [[s2.heap.objs.size + 1]], (P1.trans P2).trans (R2.newCell (as := [s2.heap.objs.size + 1]) (ac := ac') hk (fun _ _ e => e) R2.stat.bare rfl (fun b hb => by rw [List.mem_singleton.mp hb]; exact Nat.le_succ _) (by simp) ?_), vrep_new R2.len⟩
  exact hmono _ _ _ _ _ (hmk _ _ hnew) (List.prefix_append _ _)
theorem intsAre_take {vs : List Value} {l : List Int} (h : IntsAre vs l) (n : Nat) : IntsAre (vs.take n) (l.take n) := h.take n
theorem ostrs_take {vs : List Value} {l : List (Option Str)} (h : OStrsAre vs l) : ∀ n : Nat, OStrsAre (vs.take n) (l.take n) := by
  induction h with
  | nil => intro n; rw [List.take_nil, List.take_nil]; exact .nil
  | some x t _ ih =>
    intro n
    cases n with
    | zero => exact .nil
    | succ n => exact .some x t (ih n)
  | none _ ih =>
    intro n
    cases n with
    | zero => exact .nil
    | succ n => exact .none (ih n)
theorem ev_sliceI {value hiE : Expr} {p pos : Pos} {i : Nat} {l : List Int} {n : Nat} (h : Ev k sc loc cs value (.obj i) cs) (hh : Ev k sc loc cs hiE (.int n) cs) (hc : cs[i]? = some (.intL l)) (hl : l.length ≤ 100000)
    (hev : ∀ env, evalPart (some hiE) env = PySem.eval hiE env) (hnn : ∀ env, evalPart none env = pure .none) (ht : ∀ o r, letTemporaryGo value o r = pure ()) : Ev k sc loc cs (.Subscript value (.Slice none (some hiE) none p) pos) (.obj cs.length) (cs ++ [.intL (l.take n)]) := by
  refine ev_slice h hh hc (fun P ρ s as hca => ?_) (fun P ρ ρ' s as h _ => h) hev hnn ht
  refine hideG fun Gq hGq => ?_
  obtain ⟨a, vs, rfl, x, y⟩ := hca
  refine hGq ?_
  clear hGq Gq
  refine ⟨a, vs, rfl, x.isList, by rw [y.length]; exact hl, fun s' b hb => ⟨b, vs.take n, rfl, ?_, intsAre_take y n⟩⟩
  rw [pick_upto] at hb; exact hb
theorem ev_sliceS {value hiE : Expr} {p pos : Pos} {i : Nat} {l : List (Option Str)} (h : Ev k sc loc cs value (.obj i) cs) (hh : Ev k sc loc cs hiE (.int (-1)) cs) (hc : cs[i]? = some (.strL l)) (hl : l.length ≤ 100000)
    (hev : ∀ env, evalPart (some hiE) env = PySem.eval hiE env) (hnn : ∀ env, evalPart none env = pure .none) (ht : ∀ o r, letTemporaryGo value o r = pure ()) : Ev k sc loc cs (.Subscript value (.Slice none (some hiE) none p) pos) (.obj cs.length) (cs ++ [.strL (l.take (l.length - 1))]) := by
  refine ev_slice h hh hc (fun P ρ s as hca => ?_) (fun P ρ ρ' s as h _ => h) hev hnn ht
  refine hideG fun Gq hGq => ?_
  obtain ⟨a, vs, rfl, x, y⟩ := hca
  refine hGq ?_
  clear hGq Gq
  refine ⟨a, vs, rfl, x.isList, by rw [y.length]; exact hl, fun s' b hb => ⟨b, vs.take (l.length - 1), rfl, ?_, ostrs_take y _⟩⟩
  rw [pick_last] at hb
  have : vs.toArray.size = l.length := by simpa using y.length
  rw [this] at hb; exact hb
end
end
section
open PySem PySem.W PyProof.Rows PySem.Calls
section
variable {prog : Program} {w : World} {A : Around} {E : Value → Shared → Prop} {s : Shared}
set_option maxHeartbeats 1000000 in
theorem setItem_last {a : Addr} {us : List Value} {v0 v : Value} {n : Nat} {t : Tok} {Q : Unit → Shared → Prop} (ho : s.heap.get? a = some { cls := .type "list", data := .seq (us ++ [v0]).toArray n }) (hl : us.length ≤ 100000)
    (hQ : ∀ h' n', h'.get? a = some { cls := .type "list", data := .seq (us ++ [v]).toArray n' } → Heap.SameBut a s.heap h' → Q () { s with heap := h' }) : wpAny (model prog w) A (setItem (.ref a) (.int (-1) t) v) Q E s := by
  have hT : s.TypeIs (.ref a) "list" := ⟨_, ho, rfl⟩
  unfold setItem
  try with_reducible refine wpAny_holding ?_
  first | refine wpAny_bind (wpAny_pure ?_) | skip
  refine wpAny_bind (wpAny_sequenceKey hT (by decide) ?_)
  refine wpAny_bind (wpAny_callSpecial?_slot (name := Str.ofString "__setitem__") hT slot_list_setitem (wpAny_call_entry slot_list_setitem hT entry_list_setitem ?_ (args_list_setitem _ _ _)))
  have hk : seqIndex? (-1) (us ++ [v0]).toArray.size = some us.length := by
    rw [Mine.seqIndex_neg (by lia) (by simp; lia)]; simp; lia
  have hfit : Builtin.List.listFitsIndex (-1) = true := fits_neg1
  show wpAny _ _ (Builtin.List.listSubscript? (.int (-1) t) >>= _) _ _ s
  refine wpAny_bind (wpAny_listSubscript_int hfit ?_)
  show wpAny _ _ ((Builtin.List.listItems (.ref a) >>= fun xs => pure ((seqIndex? (-1) xs.size).bind fun i => xs[i]?.map (i, ·))) >>= _) _ _ s
  refine wpAny_bind (wpAny_bind ?_)
  show wpAny _ _ (seqItems? (.ref a) >>= _) _ _ s
  refine wpAny_bind (wpAny_seqItems ho rfl (wpAny_pure (wpAny_pure ?_)))
  rw [hk]
  have hget : (us ++ [v0]).toArray[us.length]? = some v0 := by simp
  simp only [Option.bind_some, hget, Option.map_some]
  show wpAny _ _ (setSeqItemAt a us.length v >>= _) _ _ s
  refine wpAny_bind (wpAny_setSeqItemAt ho rfl ?_)
  have hat := Heap.get?_update_self (f := Obj.mapSeq (·.setIfInBounds us.length v)) ho rfl
  obtain ⟨n', en⟩ : ∃ n', Obj.mapSeq (·.setIfInBounds us.length v) { cls := .type "list", data := .seq (us ++ [v0]).toArray n } = { cls := .type "list", data := .seq ((us ++ [v0]).toArray.setIfInBounds us.length v) n' } := ⟨_, rfl⟩
  have es : (us ++ [v0]).toArray.setIfInBounds us.length v = (us ++ [v]).toArray := by simp
  rw [en, es] at hat
  first
    | exact wpAny_bind (wpAny_pure (wpAny_pure ⟨.none, rfl, wpAny_pure (hQ _ _ hat (Heap.SameBut.update ..))⟩))
    | exact wpAny_pure ⟨.none, rfl, wpAny_pure (hQ _ _ hat (Heap.SameBut.update ..))⟩
end
section
variable {k : Nat} {sc : Scope} {loc : Locs} {cs : List AC}
theorem ex_setLast {o i value : Expr} {pos' pos : Pos} {j : Nat} {l : List (Option Str)} {x : Option Str} {y : Str} (hv : Ev k sc loc cs value (.str y) cs) (ho : Ev k sc loc cs o (.obj j) cs) (hi : Ev k sc loc cs i (.int (-1)) cs) (hc : cs[j]? = some (.strL (l ++ [x]))) (hl : l.length ≤ 100000)
    (hs : ∀ env, swapsWith value (some (.Subscript o i pos')) pos.line env = pure false) : Ex k sc loc cs (.Assign [.Subscript o i pos'] value pos) .next loc (cs.set j (.strL (l ++ [some y]))) := by
  intro w c ρ s O R
  refine wpAny_Assign_Subscript (wpAny_mono (hv w c ρ s O R) (fun v s1 hq => ?_) fun _ _ x => x.elim) (hs _)
  refine hideG fun Gq hGq => ?_
  obtain ⟨ρ1, P1, t, rfl⟩ := hq
  refine hGq ?_
  clear hGq Gq
  refine wpAny_mono (ho w c ρ1 s1 O P1.rep) (fun ov s2 hq => ?_) fun _ _ x => x.elim
  refine hideG fun Gq hGq => ?_
  obtain ⟨ρ2, P2, a, ra, ha, rfl⟩ := hq
  refine hGq ?_
  clear hGq Gq
  refine wpAny_mono (hi w c ρ2 s2 O P2.rep) (fun iv s3 hq => ?_) fun _ _ x => x.elim
  refine hideG fun Gq hGq => ?_
  obtain ⟨ρ3, P3, u, rfl⟩ := hq
  have ha3 := prefix_get P3.pre ha
  obtain ⟨us, n, rfl, hoa, hu⟩ := P3.rep.strLM hc ha3
  obtain ⟨v0, us, rfl, hu, hv0⟩ := ostrs_snoc hu
  refine hGq ?_
  clear hGq Gq
  have hlen := hu.length
  refine setItem_last hoa (by lia) fun h' n' hat hsb => ?_
  refine ⟨ρ3, ((P1.trans P2).trans P3).trans (P3.rep.setCell (s' := { s3 with heap := h' }) ha3 (.head _) hoa (by simp) hsb.extBut (fun _ _ e => e) P3.rep.stat.bare rfl ?_), rfl⟩
  exact ⟨a, us ++ [.str y t], rfl, ⟨n', hat⟩, hu.append (.some _ _ .nil)⟩
theorem bin_d3 (a : Int) : BinOK .FloorDiv (.int a) (.int 3) (.int (a.fdiv 3)) := bin_divc a 3 (by decide) rfl
theorem bin_d9 (a : Int) : BinOK .FloorDiv (.int a) (.int 9) (.int (a.fdiv 9)) := bin_divc a 9 (by decide) rfl
theorem ev_eqC {e : Expr} {v v' cs1 cs2} (h : Ev k sc loc cs e v cs1) (hv : v = v') (hc : cs1 = cs2) : Ev k sc loc cs e v' cs2 := hv ▸ hc ▸ h
end
end
local macro_rules | `(tactic| k_units) => `(tactic| with_reducible first
  | exact bin_d3 _
  | exact bin_d9 _
  | fail "none")
section
open PySem PySem.W PyProof.Rows PySem.Calls
noncomputable def codeI (n : Int) : Int := if [33, 94, 161, 222].contains ((n.fdiv 3).fmod 256) then (n.fdiv 3).fmod 256 + 1 else (n.fdiv 3).fmod 256
theorem codeI_range (n : Int) : 0 ≤ codeI n ∧ codeI n ≤ 255 := by
  have h0 : 0 ≤ (n.fdiv 3).fmod 256 := Int.fmod_nonneg_of_pos _ (by decide)
  have h1 : (n.fdiv 3).fmod 256 < 256 := Int.fmod_lt_of_pos _ (by decide)
  unfold codeI
  split
  · rename_i h
    simp at h
    lia
  · lia
noncomputable abbrev sg (n : Int) : Str := ⟨#[(codeI n).toNat]⟩
noncomputable def msgStep (p : List Str × Str) (n : Int) : List Str × Str := if n.fmod 3 = 0 then (p.1 ++ [p.2 ++ sg n], Str.ofString "") else (p.1, p.2 ++ sg n)
noncomputable def msgsF (ns : List Int) : List Str := (ns.foldl msgStep ([], Str.ofString "")).1
noncomputable def forOf (l : List Stmt) : List Stmt := match l with
  | .For _ _ b _ _ :: _ => b
  | _ => []
noncomputable def bMsg : List Stmt := forOf ((bodyA 260).drop 1)
noncomputable abbrev msAC (p : List Str × Str) : AC := .strL (p.1.map some ++ [some p.2])
section
variable {k : Nat} {cs : List AC}
theorem msg_turn {loc : Locs} {m : Nat} {p : List Str × Str} {n : Int} (hn : loc.lookup (Str.ofString "n") = some (.int n)) (hm : loc.lookup (Str.ofString "messages") = some (.obj m)) (hc : cs[m]? = some (msAC p)) (h1 : p.1.length ≤ 900) (h2 : p.2.length ≤ 900) :
    ∃ loc', Exs k (scA 260) loc cs bMsg .next loc' (cs.set m (msAC (msgStep p n))) ∧ loc'.lookup (Str.ofString "messages") = some (.obj m) ∧ loc'.lookup (Str.ofString "numbers") = loc.lookup (Str.ofString "numbers") := by
  obtain ⟨r0, r1⟩ := codeI_range n
  have fin : ∀ loc1 : Locs, loc1.lookup (Str.ofString "code") = some (.int (codeI n)) → loc1.lookup (Str.ofString "n") = some (.int n) → loc1.lookup (Str.ofString "messages") = some (.obj m) → loc1.lookup (Str.ofString "numbers") = loc.lookup (Str.ofString "numbers") →
      ∃ loc', Exs k (scA 260) loc1 cs (bMsg.drop 2) .next loc' (cs.set m (msAC (msgStep p n))) ∧ loc'.lookup (Str.ofString "messages") = some (.obj m) ∧ loc'.lookup (Str.ofString "numbers") = loc.lookup (Str.ofString "numbers") := by
    intro loc1 e1 e2 e3 e4
    refine ⟨loc1, ?_, e3, e4⟩
    have hcat : p.2.length + (sg n).length ≤ 10000 := by show _ + 1 ≤ _; lia
    have hl : (p.1.map some : List (Option Str)).length ≤ 100000 := by simp; lia
    have hll : (p.1.map some ++ [some (p.2 ++ sg n)] : List (Option Str)).length ≤ 100000 := by simp; lia
    have hch : Cl k cs (.builtin "chr") [.int (codeI n)] (.str (sg n)) cs := (pcl_chr _ r0 (by lia)).cl
    have hcs1 : (cs.set m (.strL (p.1.map some ++ [some (p.2 ++ sg n)])))[m]? = some (.strL (p.1.map some ++ [some (p.2 ++ sg n)])) := get_set_self hc
    refine exs_cons (ex_setLast (l := p.1.map some) (x := some p.2) (y := p.2 ++ sg n) (ev_bin (a := .str p.2) (ev_sub (i := .int (-1)) (by kl_some) (by kl_some) (it_strL_last hc) (fun _ _ => rfl)) (by kl_some) (bin_cat _ _ hcat)) (by kl_some) (by kl_some) hc hl (fun _ => rfl)) ?_
    by_cases hz : n.fmod 3 = 0
    · have em : msgStep p n = (p.1 ++ [p.2 ++ sg n], Str.ofString "") := if_pos hz
      have ea := cl_lappS (k := k) (x := Str.ofString "") hcs1 hll
      rw [List.set_set] at ea
      have ec : (p.1.map some ++ [some (p.2 ++ sg n)] ++ [some (Str.ofString "")] : List (Option Str)) = (p.1 ++ [p.2 ++ sg n]).map some ++ [some (Str.ofString "")] := by simp
      rw [ec] at ea
      rw [em]
      exact exs_cons (ex_ifT (cs1 := cs.set m (.strL (p.1.map some ++ [some (p.2 ++ sg n)]))) (tst_eq (by kl_some) (by simp [hz])) (exs_cons (ex_expr (v := .none) (ev_method (by kl_some) (m_lappS hcs1) (by kl_some) ea trivial (fun _ => rfl) (fun _ => rfl)) (fun _ => rfl)) exs_nil)) exs_nil
    · have em : msgStep p n = (p.1, p.2 ++ sg n) := if_neg hz
      rw [em]
      exact exs_cons (ex_ifF (cs1 := cs.set m (.strL (p.1.map some ++ [some (p.2 ++ sg n)]))) (tst_eq (by kl_some) (by simp [hz])) exs_nil) exs_nil
  have tup : ∀ loc, EvL k (scA 260) loc cs [.Constant (.int 33) 0 default, .Constant (.int 94) 0 default, .Constant (.int 161) 0 default, .Constant (.int 222) 0 default] (([33, 94, 161, 222] : List Int).map .int) cs := fun loc => evl_cons ev_int (evl_cons ev_int (evl_cons ev_int (evl_cons ev_int evl_nil (fun _ => rfl)) (fun _ => rfl)) (fun _ => rfl)) (fun _ => rfl)
  have hn1 : (setL (Str.ofString "code") (.int ((n.fdiv 3).fmod 256)) loc).lookup (Str.ofString "n") = some (.int n) := lk_ne (by decide) hn
  have hm1 : (setL (Str.ofString "code") (.int ((n.fdiv 3).fmod 256)) loc).lookup (Str.ofString "messages") = some (.obj m) := lk_ne (by decide) hm
  have hc1 : (setL (Str.ofString "code") (.int ((n.fdiv 3).fmod 256)) loc).lookup (Str.ofString "code") = some (.int ((n.fdiv 3).fmod 256)) := lk_eq
  by_cases hin : ([33, 94, 161, 222] : List Int).contains ((n.fdiv 3).fmod 256) = true
  · have ec : codeI n = (n.fdiv 3).fmod 256 + 1 := if_pos hin
    obtain ⟨loc', E, q1, q2⟩ := fin (setL (Str.ofString "code") (.int (codeI n)) (setL (Str.ofString "code") (.int ((n.fdiv 3).fmod 256)) loc)) lk_eq (lk_ne (by decide) hn1) (lk_ne (by decide) hm1) ((lk_ne (by decide) rfl).trans (lk_ne (by decide) rfl))
    refine ⟨loc', exs_cons (ex_assign (by kl_some) rfl (fun _ => rfl)) (exs_cons (loc1 := setL (Str.ofString "code") (.int (codeI n)) (setL (Str.ofString "code") (.int ((n.fdiv 3).fmod 256)) loc)) (ex_ifT (cs1 := cs) (tst_eq (tst_cmpc (a := .int ((n.fdiv 3).fmod 256)) (b := .tupI [33, 94, 161, 222]) (by kl_some) (ev_tupI (l := [33, 94, 161, 222]) (evl_cons ev_int (evl_cons ev_int (evl_cons ev_int (evl_cons ev_int evl_nil (fun _ => rfl)) (fun _ => rfl)) (fun _ => rfl)) (fun _ => rfl)) (by decide)) (cmp_inI _ _).c rfl) hin) ?_) E), q1, q2⟩
    rw [ec]
    exact exs_cons (ex_assign (by kl_some) rfl (fun _ => rfl)) exs_nil
  · have ec : codeI n = (n.fdiv 3).fmod 256 := if_neg hin
    have hc0 := hc1
    rw [← ec] at hn1 hm1 hc1
    obtain ⟨loc', E, q1, q2⟩ := fin (setL (Str.ofString "code") (.int (codeI n)) loc) hc1 hn1 hm1 (lk_ne (by decide) rfl)
    rw [ec] at E
    exact ⟨loc', exs_cons (ex_assign (by kl_some) rfl (fun _ => rfl)) (exs_cons (loc1 := setL (Str.ofString "code") (.int ((n.fdiv 3).fmod 256)) loc) (ex_ifF (cs1 := cs) (tst_eq (tst_cmpc (a := .int ((n.fdiv 3).fmod 256)) (b := .tupI [33, 94, 161, 222]) (by kl_some) (ev_tupI (l := [33, 94, 161, 222]) (evl_cons ev_int (evl_cons ev_int (evl_cons ev_int (evl_cons ev_int evl_nil (fun _ => rfl)) (fun _ => rfl)) (fun _ => rfl)) (fun _ => rfl)) (by decide)) (cmp_inI _ _).c rfl) (by simpa using hin)) exs_nil) E), q1, q2⟩
end
section
variable {k : Nat} {cs : List AC}
theorem msg_loop {m id : Nat} {all : List Int} (hne : m ≠ id) : ∀ (ns : List Int) (p : List Str × Str) (loc : Locs) (cs : List AC), loc.lookup (Str.ofString "messages") = some (.obj m) → cs[m]? = some (msAC p) → cs[id]? = some (.intL all) → p.1.length + ns.length ≤ 900 → p.2.length + ns.length ≤ 900 →
    ∃ loc', Fo k (scA 260) (Str.ofString "n") bMsg (fun c => c[id]? = some (.intL all)) (ns.map .int) loc cs loc' (cs.set m (msAC (ns.foldl msgStep p))) ∧ loc'.lookup (Str.ofString "messages") = some (.obj m)
  | [], p, loc, cs, hm, hc, hi, h1, h2 => by
    refine ⟨loc, ?_, hm⟩
    simp only [List.foldl_nil]
    rw [set_same hc]
    exact .nil hi
  | n :: ns, p, loc, cs, hm, hc, hi, h1, h2 => by
    simp only [List.length_cons] at h1 h2
    obtain ⟨loc1, E, q1, q2⟩ := msg_turn (k := k) (loc := setL (Str.ofString "n") (.int n) loc) (n := n) lk_eq (lk_ne (by decide) hm) hc (by lia) (by lia)
    have hs : (msgStep p n).1.length ≤ p.1.length + 1 ∧ (msgStep p n).2.length ≤ p.2.length + 1 := by
      unfold msgStep
      split
      · exact ⟨by simp, Nat.zero_le _⟩
      · exact ⟨by simp, by rw [Str.length_append]; exact Nat.le_refl _⟩
    obtain ⟨loc', F, q⟩ := msg_loop hne ns (msgStep p n) loc1 (cs.set m (msAC (msgStep p n))) q1 (get_set_self hc) (by rw [List.getElem?_set_ne hne]; exact hi) (by lia) (by lia)
    rw [List.set_set] at F
    exact ⟨loc', .cons hi E F, q⟩
theorem cl_messages {id : Nat} {ns : List Int} (hi : cs[id]? = some (.intL ns)) (hn : ns.length ≤ 900) : Cl (k + 1) cs (.ref 260) [.obj id] (.obj (cs.length + 1)) (cs ++ [msAC (ns.foldl msgStep ([], Str.ofString "")), .strL ((msgsF ns).map some)]) := by
  have hlt := lt_of_get hi
  have hm : (cs ++ [msAC ([], Str.ofString "")])[cs.length]? = some (msAC ([], Str.ofString "")) := by simp
  obtain ⟨loc', F, q⟩ := msg_loop (k := k) (m := cs.length) (id := id) (all := ns) (by lia) ns ([], Str.ofString "") (setL (Str.ofString "messages") (.obj cs.length) ([Str.ofString "numbers"].zip [.obj id])) (cs ++ [msAC ([], Str.ofString "")]) rfl hm (get_append hi) (by simp; lia) (by show 0 + _ ≤ _; lia)
  have es : (cs ++ [msAC ([], Str.ofString "")]).set cs.length (msAC (ns.foldl msgStep ([], Str.ofString ""))) = cs ++ [msAC (ns.foldl msgStep ([], Str.ofString ""))] := by
    rw [List.set_append_right _ _ (Nat.le_refl _)]; simp
  rw [es] at F
  have hbound : ∀ (ns : List Int) (p : List Str × Str), (ns.foldl msgStep p).1.length ≤ p.1.length + ns.length := by
    intro ns
    induction ns with
    | nil => intro p; simp
    | cons n ns ih =>
      intro p
      have := ih (msgStep p n)
      have hs : (msgStep p n).1.length ≤ p.1.length + 1 := by
        unfold msgStep
        split <;> simp
      simp only [List.foldl_cons, List.length_cons]
      lia
  have hb := hbound ns ([], Str.ofString "")
  apply cl_bf (.ret (.obj (cs.length + 1))) (fun P => fn260 P) rfl
  refine bf_cons (cs1 := cs ++ [msAC ([], Str.ofString "")]) (ex_assign (v := .obj cs.length) (ev_listS (l := [some (Str.ofString "")]) (by exact evl_cons (v := .str (Str.ofString "")) ev_str evl_nil (fun _ => rfl)) (by decide)) rfl (fun _ => rfl)) ?_
  refine bf_cons (loc1 := loc') (cs1 := cs ++ [msAC (ns.foldl msgStep ([], Str.ofString ""))]) (ex_forList (id := id) (ac := .intL ns) (ev_local rfl rfl rfl) rfl (ac_intL ns) F (fun _ _ => rfl)) ?_
  have hc2 : (cs ++ [msAC (ns.foldl msgStep ([], Str.ofString ""))])[cs.length]? = some (msAC (ns.foldl msgStep ([], Str.ofString ""))) := by simp
  have e2 : (ns.foldl msgStep ([], Str.ofString "")).1.map some = (msgsF ns).map some := rfl
  have e3 : cs ++ [msAC (ns.foldl msgStep ([], Str.ofString ""))] ++ [AC.strL (((ns.foldl msgStep ([], Str.ofString "")).1.map some ++ [some (ns.foldl msgStep ([], Str.ofString "")).2]).take (((ns.foldl msgStep ([], Str.ofString "")).1.map some ++ [some (ns.foldl msgStep ([], Str.ofString "")).2]).length - 1))] =
      cs ++ [msAC (ns.foldl msgStep ([], Str.ofString "")), .strL ((msgsF ns).map some)] := by
    have : (((ns.foldl msgStep ([], Str.ofString "")).1.map some ++ [some (ns.foldl msgStep ([], Str.ofString "")).2]).take (((ns.foldl msgStep ([], Str.ofString "")).1.map some ++ [some (ns.foldl msgStep ([], Str.ofString "")).2]).length - 1)) = (msgsF ns).map some := by
      rw [← e2]; exact List.take_left' (by simp)
    rw [this]; simp
  exact bf_ret (ev_eqC (ev_sliceS (ev_local rfl q rfl) (ev_neg ev_int) hc2 (by simp at hb ⊢; lia) (fun _ => rfl) (fun _ => rfl) (fun _ _ => rfl)) (by simp) e3)
end
end
section
open PySem PySem.W PyProof.Rows PySem.Calls
noncomputable def ctlOf (d : Nat) : Nat := if d = 63 ∨ d = 159 then 127 else (Builtin.bitAnd (d : Int) 31).toNat
noncomputable def altOf (c : Nat) : Nat := (Builtin.bitOr (c : Int) 128).toNat
inductive Rd : Bool → List Nat → List Nat → Prop
  | nil {b} : Rd b [] []
  | opn {b r o} : Rd true r o → Rd b (171 :: r) o
  | cls {b r o} : Rd false r o → Rd b (187 :: r) o
  | out {c r o} : c ≠ 171 → c ≠ 187 → Rd false r o → Rd false (c :: r) o
  | plain {c r o} : c ≠ 171 → c ≠ 187 → c ≠ 33 → c ≠ 94 → c < 256 → Rd true r o → Rd true (c :: r) (c :: o)
  | ctl {d r o} : d < 256 → Rd true r o → Rd true (94 :: d :: r) (ctlOf d :: o)
  | hi {c r o} : c < 256 → c ≠ 94 → Rd true r o → Rd true (33 :: c :: r) (altOf c :: o)
  | hictl {d r o} : d < 256 → Rd true r o → Rd true (33 :: 94 :: d :: r) (altOf (ctlOf d) :: o)
theorem ctl_ok : ∀ d : Fin 256, 0 ≤ Builtin.bitAnd (d : Int) 31 ∧ Builtin.bitAnd (d : Int) 31 ≤ 1114111 ∧ ctlOf d < 256 := by decide +kernel
theorem alt_ok : ∀ d : Fin 256, 0 ≤ Builtin.bitOr (d : Int) 128 ∧ Builtin.bitOr (d : Int) 128 ≤ 1114111 := by decide +kernel
structure LR (loc : Locs) (T : Str) (k_ : Nat) (b : Bool) (tx : Str) : Prop where
  row : loc.lookup (Str.ofString "row") = some (.str T)
  k_ : loc.lookup (Str.ofString "k") = some (.int k_)
  inside : loc.lookup (Str.ofString "inside") = some (.bool b)
  text : loc.lookup (Str.ofString "text") = some (.str tx)
noncomputable def wRd : Expr × List Stmt := whOf ((bodyA 279).drop 3)
noncomputable abbrev one (c : Nat) : Str := ⟨#[c]⟩
theorem one_dec (a b : Nat) : decide (one a = one b) = decide (a = b) := decide_eq_decide.mpr (by simp [one])
section
variable {k : Nat} {cs : List AC}
theorem rdTst {T : Str} {k_ : Int} {loc : Locs} (l1 : loc.lookup (Str.ofString "row") = some (.str T)) (l2 : loc.lookup (Str.ofString "k") = some (.int k_)) (hx : T.length ≤ 100000) : Tst (k + 5) (scA 279) loc cs wRd.1 (decide (k_ < T.length)) cs :=
  tst_cmpc (a := .int k_) (b := .int T.length) (by kl_some) (by kl_some) (cmp_ltI _ _).c rfl
theorem rd_mark {T : Str} {n c : Nat} {b : Bool} {tx : Str} {loc : Locs} (L : LR loc T n b tx) (hx : T.length ≤ 100000) (hc : T.cps.toList[n]? = some c) (hm : c = 171 ∨ c = 187) :
    Exs (k + 5) (scA 279) loc cs wRd.2 .next (setL (Str.ofString "k") (.int (n + 1)) (setL (Str.ofString "inside") (.bool (decide (c = 171))) loc)) cs := by
  have hlt : n < T.length := by
    have := (List.getElem?_eq_some_iff.mp hc).1
    show n < T.cps.size
    simpa using this
  have hc' : T.cps[((n : Nat) : Int).toNat]? = some c := by rw [← Array.getElem?_toList, Int.toNat_natCast]; exact hc
  have h0 : (0 : Int) ≤ (n : Nat) := by lia
  have h1 : ((n : Nat) : Int) ≤ 100000 := by lia
  have l1 := L.row
  have l2 := L.k_
  have c171 : Cl (k + 5) cs (.builtin "chr") [.int 171] (.str (one 171)) cs := (pcl_chr 171 (by decide) (by decide)).cl
  have c187 : Cl (k + 5) cs (.builtin "chr") [.int 187] (.str (one 187)) cs := (pcl_chr 187 (by decide) (by decide)).cl
  have body : ∀ (loc1 : Locs), loc1.lookup (Str.ofString "k") = some (.int n) → Exs (k + 5) (scA 279) loc1 cs (wRd.2.drop 1) .next (setL (Str.ofString "k") (.int (n + 1)) loc1) cs := fun loc1 e => exs_cons (ex_assign (by kl_some) rfl (fun _ => rfl)) exs_nil
  have asg : Exs (k + 5) (scA 279) loc cs (match wRd.2 with | .If _ b _ _ :: _ => b | _ => []) .next (setL (Str.ofString "inside") (.bool (decide (c = 171))) loc) cs := by
    refine exs_cons (ex_assign (v := .bool (decide (c = 171))) ?_ rfl (fun _ => rfl)) exs_nil
    exact ev_eqC (ev_cmpc (a := .str (one c)) (b := .str (one 171)) (by kl_some) (by kl_some) (cmp_eqS _ _).c rfl) (by rw [one_dec]) rfl
  by_cases e1 : c = 171
  · refine exs_cons (ex_ifT (tst_or_t (tst_eq (tst_cmpc (a := .str (one c)) (b := .str (one 171)) (by kl_some) (by kl_some) (cmp_eqS _ _).c rfl) (by rw [one_dec, decide_eq_true e1]))) asg) (body _ (lk_ne (by decide) l2))
  · have e2 : c = 187 := hm.resolve_left e1
    refine exs_cons (ex_ifT (tst_or_f (tst_eq (tst_cmpc (a := .str (one c)) (b := .str (one 171)) (by kl_some) (by kl_some) (cmp_eqS _ _).c rfl) (by rw [one_dec, decide_eq_false e1])) (tst_eq (tst_cmpc (a := .str (one c)) (b := .str (one 187)) (by kl_some) (by kl_some) (cmp_eqS _ _).c rfl) (by rw [one_dec, decide_eq_true e2]))) asg) (body _ (lk_ne (by decide) l2))
noncomputable def rdElse : List Stmt := match wRd.2 with
  | .If _ _ o _ :: _ => o
  | _ => []
noncomputable def rdIn : List Stmt := match rdElse with
  | .If _ b _ _ :: _ => b
  | _ => []
theorem rd_else {T : Str} {n c n2 : Nat} {loc loc1 : Locs} (l1 : loc.lookup (Str.ofString "row") = some (.str T)) (l2 : loc.lookup (Str.ofString "k") = some (.int n)) (hx : T.length ≤ 100000) (hc : T.cps.toList[n]? = some c) (h1 : c ≠ 171) (h2 : c ≠ 187)
    (h : Exs (k + 5) (scA 279) loc cs rdElse .next loc1 cs) (hk : loc1.lookup (Str.ofString "k") = some (.int n2)) :
    Exs (k + 5) (scA 279) loc cs wRd.2 .next (setL (Str.ofString "k") (.int (n2 + 1)) loc1) cs := by
  have hlt : n < T.length := by
    have := (List.getElem?_eq_some_iff.mp hc).1
    show n < T.cps.size
    simpa using this
  have hc' : T.cps[((n : Nat) : Int).toNat]? = some c := by rw [← Array.getElem?_toList, Int.toNat_natCast]; exact hc
  have h0' : (0 : Int) ≤ (n : Nat) := by lia
  have h1' : ((n : Nat) : Int) ≤ 100000 := by lia
  have c171 : Cl (k + 5) cs (.builtin "chr") [.int 171] (.str (one 171)) cs := (pcl_chr 171 (by decide) (by decide)).cl
  have c187 : Cl (k + 5) cs (.builtin "chr") [.int 187] (.str (one 187)) cs := (pcl_chr 187 (by decide) (by decide)).cl
  refine exs_cons (ex_ifF (tst_or_f (tst_eq (tst_cmpc (a := .str (one c)) (b := .str (one 171)) (by kl_some) (by kl_some) (cmp_eqS _ _).c rfl) (by rw [one_dec, decide_eq_false h1])) (tst_eq (tst_cmpc (a := .str (one c)) (b := .str (one 187)) (by kl_some) (by kl_some) (cmp_eqS _ _).c rfl) (by rw [one_dec, decide_eq_false h2]))) h) ?_
  exact exs_cons (ex_assign (by kl_some) rfl (fun _ => rfl)) exs_nil
theorem rd_out {T : Str} {loc : Locs} (l3 : loc.lookup (Str.ofString "inside") = some (.bool false)) : Exs (k + 5) (scA 279) loc cs rdElse .next loc cs :=
  exs_cons (ex_ifF (tst_val (ev_local rfl l3 rfl) (tru_bool false) (fun _ _ => rfl)) exs_nil) exs_nil
theorem rd_in {T : Str} {loc loc1 : Locs} (l3 : loc.lookup (Str.ofString "inside") = some (.bool true)) (h : Exs (k + 5) (scA 279) loc cs rdIn .next loc1 cs) : Exs (k + 5) (scA 279) loc cs rdElse .next loc1 cs :=
  exs_cons (ex_ifT (tst_val (ev_local rfl l3 rfl) (tru_bool true) (fun _ _ => rfl)) h) exs_nil
theorem rd_text {loc : Locs} {tx : Str} {c : Nat} {hb : Bool} (e1 : loc.lookup (Str.ofString "text") = some (.str tx)) (e2 : loc.lookup (Str.ofString "sign") = some (.str (one c))) (e3 : loc.lookup (Str.ofString "high") = some (.bool hb)) (hc : c < 256) (ht : tx.length ≤ 5000) :
    Exs (k + 5) (scA 279) loc cs (rdIn.drop 4) .next (setL (Str.ofString "text") (.str (tx ++ one (if hb then altOf c else c))) loc) cs := by
  obtain ⟨a0, a1⟩ := alt_ok ⟨c, hc⟩
  simp only at a0 a1
  have hcat : ∀ x : Nat, tx.length + (one x).length ≤ 10000 := fun x => by show _ + 1 ≤ _; lia
  have hal : Cl (k + 5) cs (.ref 225) [.str ⟨#[c]⟩] (.str (one (altOf c))) cs := cl_alt (k := k + 3) c a0 a1
  cases hb with
  | true => exact exs_cons (ex_assign (v := .str (tx ++ one (altOf c))) (ev_bin (a := .str tx) (b := .str (one (altOf c))) (by kl_some) (ev_ifT (tst_val (ev_local rfl e3 rfl) (tru_bool true) (fun _ _ => rfl)) (by kl_some)) (bin_cat _ _ (hcat _))) rfl (fun _ => rfl)) exs_nil
  | false => exact exs_cons (ex_assign (v := .str (tx ++ one c)) (ev_bin (a := .str tx) (b := .str (one c)) (by kl_some) (ev_ifF (tst_val (ev_local rfl e3 rfl) (tru_bool false) (fun _ _ => rfl)) (by kl_some)) (bin_cat _ _ (hcat _))) rfl (fun _ => rfl)) exs_nil
theorem rd_at {T : Str} {n c : Nat} (hx : T.length ≤ 100000) (hc : T.cps.toList[n]? = some c) : T.cps[((n : Nat) : Int).toNat]? = some c ∧ (0 : Int) ≤ (n : Nat) ∧ ((n : Nat) : Int) ≤ 100000 := by
  have hlt : n < T.length := by
    have := (List.getElem?_eq_some_iff.mp hc).1
    show n < T.cps.size
    simpa using this
  refine ⟨by rw [← Array.getElem?_toList, Int.toNat_natCast]; exact hc, by lia, by lia⟩
noncomputable def rdCar : List Stmt := match rdIn.drop 3 with
  | .If _ b _ _ :: _ => b
  | _ => []
theorem rd_caret {T : Str} {loc : Locs} {n d : Nat} (l1 : loc.lookup (Str.ofString "row") = some (.str T)) (l2 : loc.lookup (Str.ofString "k") = some (.int n)) (hx : T.length ≤ 5000) (hd : T.cps.toList[n + 1]? = some d) (h2 : d < 256) :
    Exs (k + 5) (scA 279) loc cs rdCar .next (setL (Str.ofString "sign") (.str (one (ctlOf d))) (setL (Str.ofString "k") (.int ((n : Int) + 1)) loc)) cs := by
  refine hideG fun Gq hGq => ?_
  obtain ⟨hc', h0', h1'⟩ := rd_at (by lia) hd
  obtain ⟨a0, a1, _⟩ := ctl_ok ⟨d, h2⟩
  refine hGq ?_
  clear hGq Gq
  simp only at a0 a1
  have m1 : (setL (Str.ofString "k") (.int ((n : Int) + 1)) loc).lookup (Str.ofString "row") = some (.str T) := lk_ne (by decide) l1
  have m2 : (setL (Str.ofString "k") (.int ((n : Int) + 1)) loc).lookup (Str.ofString "k") = some (.int ((n + 1 : Nat) : Int)) := lk_eq
  have c159 : Cl (k + 5) cs (.builtin "chr") [.int 159] (.str (one 159)) cs := (pcl_chr 159 (by decide) (by decide)).cl
  have c127 : Cl (k + 5) cs (.builtin "chr") [.int 127] (.str (one 127)) cs := (pcl_chr 127 (by decide) (by decide)).cl
  have cct : Cl (k + 5) cs (.ref 218) [.str (one d)] (.str (one (Builtin.bitAnd (d : Int) 31).toNat)) cs := cl_ctrl (k := k + 3) d a0 a1
  have tt : Tst (k + 5) (scA 279) (setL (Str.ofString "k") (.int ((n : Int) + 1)) loc) cs (match rdCar.drop 1 with | .Assign _ (.IfExp t _ _ _) _ :: _ => t | _ => wRd.1) (decide (d = 63 ∨ d = 159)) cs := by
    refine tst_eq (tst_cmpc (a := .str (one d)) (b := .tupS [one 63, one 159]) (by kl_some) (ev_tupS (l := [one 63, one 159]) (by exact evl_cons (v := .str (one 63)) ev_str (evl_cons (v := .str (one 159)) (by kl_some) evl_nil (fun _ => rfl)) (fun _ => rfl)) (by decide)) (cmp_inS _ _).c rfl) ?_
    rw [Bool.eq_iff_iff]
    simp [one]
  refine exs_cons (ex_assign (by kl_some) rfl (fun _ => rfl)) (exs_cons (ex_assign (v := .str (one (ctlOf d))) ?_ rfl (fun _ => rfl)) exs_nil)
  by_cases hh : d = 63 ∨ d = 159
  · have ec : ctlOf d = 127 := by rw [ctlOf, if_pos hh]
    rw [ec]
    exact ev_ifT (tst_eq tt (decide_eq_true hh)) (ev_call (ev_stat rfl gl_chr rfl) (evl_cons (ev_globInt rfl gl_DEL rfl) evl_nil (fun _ => rfl)) c127 (by kl_room) (fun _ => rfl))
  · have ec : ctlOf d = (Builtin.bitAnd (d : Int) 31).toNat := by rw [ctlOf, if_neg hh]
    rw [ec]
    exact ev_ifF (tst_eq tt (decide_eq_false hh)) (by kl_some)
theorem rd_sign {T : Str} {loc : Locs} {tx : Str} {n s1 r n' : Nat} {b hb : Bool} (L : LR loc T n b tx) (e3 : loc.lookup (Str.ofString "high") = some (.bool hb)) (hx : T.length ≤ 5000)
    (hs : T.cps.toList[n]? = some s1) (ht : tx.length ≤ 5000)
    (H : (s1 ≠ 94 ∧ s1 < 256 ∧ r = s1 ∧ n' = n) ∨ (s1 = 94 ∧ ∃ d, T.cps.toList[n + 1]? = some d ∧ d < 256 ∧ r = ctlOf d ∧ n' = n + 1)) :
    ∃ loc', Exs (k + 5) (scA 279) loc cs (rdIn.drop 2) .next loc' cs ∧ LR loc' T n' b (tx ++ one (if hb then altOf r else r)) := by
  refine hideG fun Gq hGq => ?_
  obtain ⟨l1, l2, l3, l4⟩ := L
  obtain ⟨hc', h0', h1'⟩ := rd_at (by lia) hs
  refine hGq ?_
  clear hGq Gq
  have x1 : Ex (k + 5) (scA 279) loc cs (match rdIn.drop 2 with | a :: _ => a | _ => .Pass default) .next (setL (Str.ofString "sign") (.str (one s1)) loc) cs := ex_assign (by kl_some) rfl (fun _ => rfl)
  have hsg : (setL (Str.ofString "sign") (.str (one s1)) loc).lookup (Str.ofString "sign") = some (.str (one s1)) := lk_eq
  have t1 : Tst (k + 5) (scA 279) (setL (Str.ofString "sign") (.str (one s1)) loc) cs (match rdIn.drop 3 with | .If t _ _ _ :: _ => t | _ => wRd.1) (decide (s1 = 94)) cs :=
    tst_eq (tst_cmpc (a := .str (one s1)) (b := .str (one 94)) (ev_local rfl hsg rfl) (by exact ev_str) (cmp_eqS _ _).c rfl) (by rw [one_dec])
  rcases H with ⟨h1, h2, rfl, rfl⟩ | ⟨h1, d, hd, h2, rfl, rfl⟩
  · refine ⟨_, exs_cons x1 (exs_cons (ex_ifF (tst_eq t1 (decide_eq_false h1)) exs_nil) (rd_text (lk_ne (by decide) l4) hsg (lk_ne (by decide) e3) h2 ht)), ?_, ?_, ?_, ?_⟩
    · exact lk_ne (by decide) (lk_ne (by decide) l1)
    · exact lk_ne (by decide) (lk_ne (by decide) l2)
    · exact lk_ne (by decide) (lk_ne (by decide) l3)
    · exact lk_eq
  · have hct := (ctl_ok ⟨d, h2⟩).2.2
    refine ⟨_, exs_cons x1 (exs_cons (ex_ifT (tst_eq t1 (decide_eq_true h1)) (rd_caret (lk_ne (by decide) l1) (lk_ne (by decide) l2) hx hd h2)) (rd_text (tx := tx) (c := ctlOf d) (hb := hb) ?_ lk_eq ?_ hct ht)), ?_, ?_, ?_, ?_⟩
    · exact lk_ne (by decide) (lk_ne (by decide) (lk_ne (by decide) l4))
    · exact lk_ne (by decide) (lk_ne (by decide) (lk_ne (by decide) e3))
    · exact lk_ne (by decide) (lk_ne (by decide) (lk_ne (by decide) (lk_ne (by decide) l1)))
    · exact lk_ne (by decide) (lk_ne (by decide) lk_eq)
    · exact lk_ne (by decide) (lk_ne (by decide) (lk_ne (by decide) (lk_ne (by decide) l3)))
    · exact lk_eq
theorem rd_body {T : Str} {loc : Locs} {tx : Str} {n c : Nat} {b : Bool} (L : LR loc T n b tx) (hx : T.length ≤ 5000) (hs : T.cps.toList[n]? = some c) (ht : tx.length ≤ 5000) {hb : Bool} {s1 r n' : Nat} (hhb : hb = decide (c = 33))
    (hs1 : T.cps.toList[if hb then n + 1 else n]? = some s1)
    (H : (s1 ≠ 94 ∧ s1 < 256 ∧ r = s1 ∧ n' = (if hb then n + 1 else n)) ∨ (s1 = 94 ∧ ∃ d, T.cps.toList[(if hb then n + 1 else n) + 1]? = some d ∧ d < 256 ∧ r = ctlOf d ∧ n' = (if hb then n + 1 else n) + 1)) :
    ∃ loc', Exs (k + 5) (scA 279) loc cs rdIn .next loc' cs ∧ LR loc' T n' b (tx ++ one (if hb then altOf r else r)) := by
  refine hideG fun Gq hGq => ?_
  obtain ⟨l1, l2, l3, l4⟩ := L
  obtain ⟨hc', h0', h1'⟩ := rd_at (by lia) hs
  refine hGq ?_
  clear hGq Gq
  have x1 : Ex (k + 5) (scA 279) loc cs (match rdIn with | a :: _ => a | _ => .Pass default) .next (setL (Str.ofString "high") (.bool hb) loc) cs :=
    ex_assign (ev_eqC (ev_cmpc (a := .str (one c)) (b := .str (one 33)) (by kl_some) (by exact ev_str) (cmp_eqS _ _).c rfl) (by rw [one_dec, hhb]) rfl) rfl (fun _ => rfl)
  have hh : (setL (Str.ofString "high") (.bool hb) loc).lookup (Str.ofString "high") = some (.bool hb) := lk_eq
  have m2 : (setL (Str.ofString "high") (.bool hb) loc).lookup (Str.ofString "k") = some (.int n) := lk_ne (by decide) l2
  cases hb with
  | false =>
    obtain ⟨loc', E, L'⟩ := rd_sign (k := k) (cs := cs) (b := b) ⟨lk_ne (by decide) l1, m2, lk_ne (by decide) l3, lk_ne (by decide) l4⟩ hh hx hs1 ht H
    exact ⟨loc', exs_cons x1 (exs_cons (ex_ifF (tst_val (ev_local rfl hh rfl) (tru_bool false) (fun _ _ => rfl)) exs_nil) E), L'⟩
  | true =>
    have x2 : Exs (k + 5) (scA 279) (setL (Str.ofString "high") (.bool true) loc) cs (match rdIn.drop 1 with | .If _ b _ _ :: _ => b | _ => []) .next (setL (Str.ofString "k") (.int ((n : Int) + 1)) (setL (Str.ofString "high") (.bool true) loc)) cs :=
      exs_cons (ex_assign (by kl_some) rfl (fun _ => rfl)) exs_nil
    obtain ⟨loc', E, L'⟩ := rd_sign (k := k) (cs := cs) (b := b) (loc := setL (Str.ofString "k") (.int ((n : Int) + 1)) (setL (Str.ofString "high") (.bool true) loc)) ⟨lk_ne (by decide) (lk_ne (by decide) l1), lk_eq, lk_ne (by decide) (lk_ne (by decide) l3), lk_ne (by decide) (lk_ne (by decide) l4)⟩ (lk_ne (by decide) hh) hx hs1 ht H
    exact ⟨loc', exs_cons x1 (exs_cons (ex_ifT (tst_val (ev_local rfl hh rfl) (tru_bool true) (fun _ _ => rfl)) x2) E), L'⟩
theorem rd_turn {T : Str} {loc : Locs} {tx : Str} {n c : Nat} (L : LR loc T n true tx) (hx : T.length ≤ 5000) (hs : T.cps.toList[n]? = some c) (ht : tx.length ≤ 5000) (n1 : c ≠ 171) (n2 : c ≠ 187) {hb : Bool} {s1 r n' : Nat} (hhb : hb = decide (c = 33))
    (hs1 : T.cps.toList[if hb then n + 1 else n]? = some s1)
    (H : (s1 ≠ 94 ∧ s1 < 256 ∧ r = s1 ∧ n' = (if hb then n + 1 else n)) ∨ (s1 = 94 ∧ ∃ d, T.cps.toList[(if hb then n + 1 else n) + 1]? = some d ∧ d < 256 ∧ r = ctlOf d ∧ n' = (if hb then n + 1 else n) + 1)) :
    ∃ loc', Exs (k + 5) (scA 279) loc cs wRd.2 .next loc' cs ∧ LR loc' T (n' + 1) true (tx ++ one (if hb then altOf r else r)) := by
  obtain ⟨loc', E, L'⟩ := rd_body (k := k) (cs := cs) L hx hs ht hhb hs1 H
  refine ⟨_, rd_else L.row L.k_ (by lia) hs n1 n2 (rd_in (T := T) L.inside E) L'.k_, ?_, ?_, ?_, ?_⟩
  · exact lk_ne (by decide) L'.row
  · exact lk_eq
  · exact lk_ne (by decide) L'.inside
  · exact lk_ne (by decide) L'.text
theorem app_one (tx : Str) (c : Nat) (o : List Nat) : tx ++ one c ++ (⟨o.toArray⟩ : Str) = tx ++ ⟨(c :: o).toArray⟩ := by
  show (⟨(tx.cps ++ #[c]) ++ o.toArray⟩ : Str) = ⟨tx.cps ++ (c :: o).toArray⟩
  congr 1
  apply Array.toList_inj.mp
  simp
theorem len_app_one (tx : Str) (c : Nat) : (tx ++ one c).length = tx.length + 1 := by
  show (tx.cps ++ #[c]).size = _
  rw [Array.size_append]; rfl
theorem rd_loop {T : Str} (hx : T.length ≤ 5000) : ∀ {b rest o}, Rd b rest o → ∀ (pre : List Nat) (tx : Str) (loc : Locs), T.cps.toList = pre ++ rest → LR loc T pre.length b tx → tx.length + rest.length ≤ 5000 →
    ∃ m loc' b', Wh (k + 5) (scA 279) wRd.1 wRd.2 m loc cs loc' cs ∧ LR loc' T T.length b' (tx ++ ⟨o.toArray⟩) := by
  have hTl : T.length = T.cps.toList.length := Array.length_toList.symm
  intro b rest o h
  have tst : ∀ {n : Nat} {b : Bool} {tx : Str} {loc : Locs}, LR loc T n b tx → n < T.length → Tst (k + 5) (scA 279) loc cs wRd.1 true cs := fun L h => tst_eq (rdTst L.row L.k_ (by lia)) (by simpa using h)
  induction h with
  | @nil b0 =>
    intro pre tx loc e L ht
    rw [List.append_nil] at e
    have : T.length = pre.length := by rw [hTl, e]
    refine ⟨0, loc, b0, .stop (tst_eq (rdTst L.row L.k_ (by lia)) (by simp; lia)), ?_⟩
    have e2 : tx ++ (⟨([] : List Nat).toArray⟩ : Str) = tx := by
      show (⟨tx.cps ++ #[]⟩ : Str) = tx
      simp
    rw [e2, this]
    exact L
  | @opn b r o h ih =>
    intro pre tx loc e L ht
    have hs : T.cps.toList[pre.length]? = some 171 := by rw [e]; simp
    have hlt : pre.length < T.length := by rw [hTl, e]; simp
    refine hideG fun Gq hGq => ?_
    obtain ⟨m, loc', b', W, L'⟩ := ih (pre ++ [171]) tx (setL (Str.ofString "k") (.int ((pre.length : Int) + 1)) (setL (Str.ofString "inside") (.bool (decide (171 = 171))) loc)) (by rw [e]; simp) ⟨lk_ne (by decide) (lk_ne (by decide) L.row), by rw [List.length_append]; exact lk_eq, lk_ne (by decide) lk_eq, lk_ne (by decide) (lk_ne (by decide) L.text)⟩ (by simp at ht; lia)
    refine hGq ?_
    clear hGq Gq
    exact ⟨_, loc', b', .turn (tst L hlt) (rd_mark L (by lia) hs (Or.inl rfl)) W, L'⟩
  | @cls b r o h ih =>
    intro pre tx loc e L ht
    have hs : T.cps.toList[pre.length]? = some 187 := by rw [e]; simp
    have hlt : pre.length < T.length := by rw [hTl, e]; simp
    refine hideG fun Gq hGq => ?_
    obtain ⟨m, loc', b', W, L'⟩ := ih (pre ++ [187]) tx (setL (Str.ofString "k") (.int ((pre.length : Int) + 1)) (setL (Str.ofString "inside") (.bool (decide (187 = 171))) loc)) (by rw [e]; simp) ⟨lk_ne (by decide) (lk_ne (by decide) L.row), by rw [List.length_append]; exact lk_eq, lk_ne (by decide) lk_eq, lk_ne (by decide) (lk_ne (by decide) L.text)⟩ (by simp at ht; lia)
    refine hGq ?_
    clear hGq Gq
    exact ⟨_, loc', b', .turn (tst L hlt) (rd_mark L (by lia) hs (Or.inr rfl)) W, L'⟩
  | @out c r o n1 n2 h ih =>
    intro pre tx loc e L ht
    have hs : T.cps.toList[pre.length]? = some c := by rw [e]; simp
    have hlt : pre.length < T.length := by rw [hTl, e]; simp
    refine hideG fun Gq hGq => ?_
    obtain ⟨m, loc', b', W, L'⟩ := ih (pre ++ [c]) tx (setL (Str.ofString "k") (.int ((pre.length : Int) + 1)) loc) (by rw [e]; simp) ⟨lk_ne (by decide) L.row, by rw [List.length_append]; exact lk_eq, lk_ne (by decide) L.inside, lk_ne (by decide) L.text⟩ (by simp at ht; lia)
    refine hGq ?_
    clear hGq Gq
    exact ⟨_, loc', b', .turn (tst L hlt) (rd_else L.row L.k_ (by lia) hs n1 n2 (rd_out (T := T) L.inside) L.k_) W, L'⟩
  | @plain c r o n1 n2 n3 n4 n5 h ih =>
    intro pre tx loc e L ht
    have hs : T.cps.toList[pre.length]? = some c := by rw [e]; simp
    have hlt : pre.length < T.length := by rw [hTl, e]; simp
    refine hideG fun Gq hGq => ?_
    obtain ⟨loc1, E, L1⟩ := rd_turn (k := k) (cs := cs) (hb := false) (s1 := c) (r := c) (n' := pre.length) L hx hs (by simp at ht; lia) n1 n2 (by simp [n3]) hs (Or.inl ⟨n4, n5, rfl, rfl⟩)
    obtain ⟨m, loc', b', W, L'⟩ := ih (pre ++ [c]) (tx ++ one c) loc1 (by rw [e]; simp) (by simpa using L1) (by rw [len_app_one]; simp at ht; lia)
    refine hGq ?_
    clear hGq Gq
    exact ⟨_, loc', b', .turn (tst L hlt) E W, by rw [← app_one]; exact L'⟩
  | @ctl d r o n1 h ih =>
    intro pre tx loc e L ht
    have hs : T.cps.toList[pre.length]? = some 94 := by rw [e]; simp
    have hs2 : T.cps.toList[pre.length + 1]? = some d := by rw [e]; simp
    have hlt : pre.length < T.length := by rw [hTl, e]; simp
    refine hideG fun Gq hGq => ?_
    obtain ⟨loc1, E, L1⟩ := rd_turn (k := k) (cs := cs) (hb := false) (s1 := 94) (r := ctlOf d) (n' := pre.length + 1) L hx hs (by simp at ht; lia) (by decide) (by decide) (by decide) hs (Or.inr ⟨rfl, d, hs2, n1, rfl, rfl⟩)
    obtain ⟨m, loc', b', W, L'⟩ := ih (pre ++ [94, d]) (tx ++ one (ctlOf d)) loc1 (by rw [e]; simp) (by simpa using L1) (by rw [len_app_one]; simp at ht; lia)
    refine hGq ?_
    clear hGq Gq
    exact ⟨_, loc', b', .turn (tst L hlt) E W, by rw [← app_one]; exact L'⟩
  | @hi c r o n1 n2 h ih =>
    intro pre tx loc e L ht
    have hs : T.cps.toList[pre.length]? = some 33 := by rw [e]; simp
    have hs2 : T.cps.toList[pre.length + 1]? = some c := by rw [e]; simp
    have hlt : pre.length < T.length := by rw [hTl, e]; simp
    refine hideG fun Gq hGq => ?_
    obtain ⟨loc1, E, L1⟩ := rd_turn (k := k) (cs := cs) (hb := true) (s1 := c) (r := c) (n' := pre.length + 1) L hx hs (by simp at ht; lia) (by decide) (by decide) (by decide) hs2 (Or.inl ⟨n2, n1, rfl, rfl⟩)
    obtain ⟨m, loc', b', W, L'⟩ := ih (pre ++ [33, c]) (tx ++ one (altOf c)) loc1 (by rw [e]; simp) (by simpa using L1) (by rw [len_app_one]; simp at ht; lia)
    refine hGq ?_
    clear hGq Gq
    exact ⟨_, loc', b', .turn (tst L hlt) E W, by rw [← app_one]; exact L'⟩
  | @hictl d r o n1 h ih =>
    intro pre tx loc e L ht
    have hs : T.cps.toList[pre.length]? = some 33 := by rw [e]; simp
    have hs2 : T.cps.toList[pre.length + 1]? = some 94 := by rw [e]; simp
    have hs3 : T.cps.toList[pre.length + 1 + 1]? = some d := by rw [e, List.getElem?_append_right (by lia), show pre.length + 1 + 1 - pre.length = 2 by lia]; rfl
    have hlt : pre.length < T.length := by rw [hTl, e]; simp
    refine hideG fun Gq hGq => ?_
    obtain ⟨loc1, E, L1⟩ := rd_turn (k := k) (cs := cs) (hb := true) (s1 := 94) (r := ctlOf d) (n' := pre.length + 1 + 1) L hx hs (by simp at ht; lia) (by decide) (by decide) (by decide) hs2 (Or.inr ⟨rfl, d, hs3, n1, rfl, rfl⟩)
    obtain ⟨m, loc', b', W, L'⟩ := ih (pre ++ [33, 94, d]) (tx ++ one (altOf (ctlOf d))) loc1 (by rw [e]; simp) (by simpa using L1) (by rw [len_app_one]; simp at ht; lia)
    refine hGq ?_
    clear hGq Gq
    exact ⟨_, loc', b', .turn (tst L hlt) E W, by rw [← app_one]; exact L'⟩
theorem cl_read {T : Str} {o : List Nat} (hx : T.length ≤ 5000) (h : Rd false T.cps.toList o) : Cl (k + 6) cs (.ref 279) [.str T] (.str ⟨o.toArray⟩) cs := by
  apply cl_bf (.ret (.str ⟨o.toArray⟩)) (fun P => fn279 P) rfl
  apply bf_cons (ex_assign ev_str rfl (fun _ => rfl))
  apply bf_cons (ex_assign ev_bool rfl (fun _ => rfl))
  apply bf_cons (ex_assign ev_int rfl (fun _ => rfl))
  have hTl : T.length = T.cps.toList.length := Array.length_toList.symm
  have L : LR (setL (Str.ofString "k") (.int ((([] : List Nat).length : Nat))) (setL (Str.ofString "inside") (.bool false) (setL (Str.ofString "text") (.str (Str.ofString "")) ([Str.ofString "row"].zip [.str T])))) T ([] : List Nat).length false (Str.ofString "") := ⟨rfl, rfl, rfl, rfl⟩
  refine hideG fun Gq hGq => ?_
  obtain ⟨m, loc', b', W, L'⟩ := rd_loop (k := k) (cs := cs) hx h [] _ _ rfl L (by show 0 + _ ≤ _; lia)
  refine hGq ?_
  clear hGq Gq
  have e : Str.ofString "" ++ (⟨o.toArray⟩ : Str) = ⟨o.toArray⟩ := by
    show (⟨#[] ++ o.toArray⟩ : Str) = _
    simp
  rw [e] at L'
  exact bf_cons (ex_while W) (bf_ret (ev_local rfl L'.text rfl))
end
end
section
open PySem PySem.W PyProof.Rows PySem.Calls
noncomputable def rowStep (sh : List Str) (ow : List Int) (b e k : Nat) (row : Str) : Str :=
  let r1 := if k = b then row ++ Str.ofString "" ++ one 171 else if ow[k]? ≠ ow[k - 1]? then row ++ Str.ofString " " ++ one 171 else row
  let r2 := r1 ++ (sh[k]?).getD (Str.ofString "")
  if k + 1 = e ∨ ow[k]? ≠ ow[k + 1]? then r2 ++ one 187 else r2
noncomputable def rowGo (sh : List Str) (ow : List Int) (b e : Nat) : Nat → Nat → Str → Str
  | 0, _, row => row
  | m + 1, k, row => rowGo sh ow b e m (k + 1) (rowStep sh ow b e k row)
noncomputable def rowF (sh : List Str) (ow : List Int) (b e : Nat) : Str := rowGo sh ow b e (e - b) b (Str.ofString "")
noncomputable def bRow : List Stmt := forOf ((bodyA 267).drop 1)
structure LW2 (loc : Locs) (si oi b e : Nat) (row : Str) : Prop where
  shown : loc.lookup (Str.ofString "shown") = some (.obj si)
  owner : loc.lookup (Str.ofString "owner") = some (.obj oi)
  begin_ : loc.lookup (Str.ofString "begin") = some (.int b)
  end_ : loc.lookup (Str.ofString "end") = some (.int e)
  row : loc.lookup (Str.ofString "row") = some (.str row)
theorem LW2.set {loc si oi b e row row'} (L : LW2 loc si oi b e row) : LW2 (setL (Str.ofString "row") (.str row') loc) si oi b e row' :=
  ⟨lk_ne (by decide) L.shown, lk_ne (by decide) L.owner, lk_ne (by decide) L.begin_, lk_ne (by decide) L.end_, lk_eq⟩
theorem LW2.setk {loc si oi b e row v} (L : LW2 loc si oi b e row) : LW2 (setL (Str.ofString "k") v loc) si oi b e row :=
  ⟨lk_ne (by decide) L.shown, lk_ne (by decide) L.owner, lk_ne (by decide) L.begin_, lk_ne (by decide) L.end_, lk_ne (by decide) L.row⟩
section
variable {k : Nat} {cs : List AC}
theorem row_turn {loc : Locs} {si oi b e j : Nat} {row : Str} {sh : List Str} {ow : List Int} (L : LW2 loc si oi b e row) (hk : loc.lookup (Str.ofString "k") = some (.int j)) (hs : cs[si]? = some (.strL (sh.map some))) (ho : cs[oi]? = some (.intL ow)) (hN : sh.length = ow.length) (h100 : sh.length ≤ 500)
    (hb : b ≤ j) (he : j < e) (heN : e ≤ sh.length) (hr : row.length ≤ 5000) (h4 : ∀ x ∈ sh, x.length ≤ 10) :
    ∃ loc', Exs k (scA 267) loc cs bRow .next loc' cs ∧ LW2 loc' si oi b e (rowStep sh ow b e j row) := by
  refine hideG fun Gq hGq => ?_
  obtain ⟨o0, ho0⟩ : ∃ o, ow[j]? = some o := ⟨_, List.getElem?_eq_getElem (by omega)⟩
  obtain ⟨x, hx⟩ : ∃ x, sh[j]? = some x := ⟨_, List.getElem?_eq_getElem (by omega)⟩
  refine hGq ?_
  clear hGq Gq
  have hxl := h4 x (List.mem_of_getElem? hx)
  have c171 : Cl k cs (.builtin "chr") [.int 171] (.str (one 171)) cs := (pcl_chr 171 (by decide) (by decide)).cl
  have c187 : Cl k cs (.builtin "chr") [.int 187] (.str (one 187)) cs := (pcl_chr 187 (by decide) (by decide)).cl
  have hj0 : (0 : Int) ≤ (j : Nat) := by lia
  have hj1 : ((j : Nat) : Int) ≤ 100000 := by lia
  have ho0' : ow[((j : Nat) : Int).toNat]? = some o0 := by rw [Int.toNat_natCast]; exact ho0
  have hx' : (sh.map some)[((j : Nat) : Int).toNat]? = some (some x) := by rw [Int.toNat_natCast, List.getElem?_map, hx]; rfl
  -- the first if
  obtain ⟨loc1, r1, E1, L1, hk1, hr1, hrl⟩ : ∃ loc1 r1, Ex k (scA 267) loc cs (match bRow with | a :: _ => a | _ => .Pass default) .next loc1 cs ∧ LW2 loc1 si oi b e r1 ∧ loc1.lookup (Str.ofString "k") = some (.int j) ∧ (if j = b then row ++ Str.ofString "" ++ one 171 else if ow[j]? ≠ ow[j - 1]? then row ++ Str.ofString " " ++ one 171 else row) = r1 ∧ r1.length ≤ 5002 := by
    refine hideG fun Gq hGq => ?_
    obtain ⟨l1, l2, l3, l4, l5⟩ := L
    refine hGq ?_
    clear hGq Gq
    have L : LW2 loc si oi b e row := ⟨l1, l2, l3, l4, l5⟩
    have teq : Tst k (scA 267) loc cs (match bRow with | .If (.BoolOp _ (t :: _) _) _ _ _ :: _ => t | _ => wRd.1) (((j : Nat) : Int) == ((b : Nat) : Int)) cs := tst_cmpc (a := .int j) (b := .int b) (by kl_some) (by kl_some) (cmp_eqI _ _).c rfl
    by_cases hjb : j = b
    · refine ⟨_, _, ex_ifT (tst_or_t (tst_eq teq (by rw [hjb]; exact beq_self_eq_true _))) (exs_cons (ex_assign (v := .str (row ++ Str.ofString "" ++ one 171)) ?_ rfl (fun _ => rfl)) exs_nil), L.set, lk_ne (by decide) hk, if_pos hjb, ?_⟩
      · refine ev_bin (a := .str (row ++ Str.ofString "")) (b := .str (one 171)) (ev_bin (a := .str row) (b := .str (Str.ofString "")) (by kl_some) (ev_ifT (tst_eq (tst_cmpc (a := .int j) (b := .int b) (by kl_some) (by kl_some) (cmp_eqI _ _).c rfl) (by rw [hjb]; exact beq_self_eq_true _)) ev_str) (bin_cat _ _ ?_)) (by kl_some) (bin_cat _ _ ?_)
        · show _ + 0 ≤ _; omega
        · rw [Str.length_append]; show _ + 0 + 1 ≤ _; omega
      · rw [Str.length_append, Str.length_append]; show _ + 0 + 1 ≤ _; omega
    · have hne : (((j : Nat) : Int) == ((b : Nat) : Int)) = false := by simp; omega
      obtain ⟨o1, ho1⟩ : ∃ o, ow[j - 1]? = some o := ⟨_, List.getElem?_eq_getElem (by omega)⟩
      have hj2 : (0 : Int) ≤ ((j : Nat) : Int) - 1 := by omega
      have hj3 : ((j : Nat) : Int) - 1 ≤ 100000 := by omega
      have ho1' : ow[(((j : Nat) : Int) - 1).toNat]? = some o1 := by rw [show (((j : Nat) : Int) - 1).toNat = j - 1 by omega]; exact ho1
      have tne : Tst k (scA 267) loc cs (match bRow with | .If (.BoolOp _ (_ :: t :: _) _) _ _ _ :: _ => t | _ => wRd.1) (o0 != o1) cs :=
        tst_cmpc (a := .int o0) (b := .int o1) (ev_sub (by kl_some) (by kl_some) (it_intL ho hj0 hj1 ho0') (fun _ _ => rfl)) (ev_sub (i := .int (((j : Nat) : Int) - 1)) (by kl_some) (by kl_some) (it_intL ho hj2 hj3 ho1') (fun _ _ => rfl)) (cmp_neI _ _).c rfl
      by_cases hoo : o0 = o1
      · refine ⟨_, _, ex_ifF (tst_or_f (tst_eq teq hne) (tst_eq tne (by simp [hoo]))) exs_nil, L, hk, ?_, ?_⟩
        · rw [if_neg hjb, if_neg]; rw [ho0, ho1, hoo]; simp
        · omega
      · refine ⟨_, _, ex_ifT (tst_or_f (tst_eq teq hne) (tst_eq tne (by simp [hoo]))) (exs_cons (ex_assign (v := .str (row ++ Str.ofString " " ++ one 171)) ?_ rfl (fun _ => rfl)) exs_nil), L.set, lk_ne (by decide) hk, ?_, ?_⟩
        · refine ev_bin (a := .str (row ++ Str.ofString " ")) (b := .str (one 171)) (ev_bin (a := .str row) (b := .str (Str.ofString " ")) (by kl_some) (ev_ifF (tst_eq (tst_cmpc (a := .int j) (b := .int b) (by kl_some) (by kl_some) (cmp_eqI _ _).c rfl) hne) ev_str) (bin_cat _ _ ?_)) (by kl_some) (bin_cat _ _ ?_)
          · show _ + 1 ≤ _; omega
          · rw [Str.length_append]; show _ + 1 + 1 ≤ _; omega
        · rw [if_neg hjb, if_pos]; rw [ho0, ho1]; simpa using hoo
        · rw [Str.length_append, Str.length_append]; show _ + 1 + 1 ≤ _; omega
  have hcat : r1.length + x.length ≤ 10000 := by omega
  have hcat2 : (r1 ++ x).length + (one 187).length ≤ 10000 := by rw [Str.length_append]; show _ + 1 ≤ _; omega
  have E2 : Ex k (scA 267) loc1 cs (match bRow.drop 1 with | a :: _ => a | _ => .Pass default) .next (setL (Str.ofString "row") (.str (r1 ++ x)) loc1) cs := by
    refine hideG fun Gq hGq => ?_
    obtain ⟨l1, l2, l3, l4, l5⟩ := L1
    refine hGq ?_
    clear hGq Gq
    exact ex_assign (v := .str (r1 ++ x)) (ev_bin (a := .str r1) (b := .str x) (by kl_some) (ev_sub (by kl_some) (by kl_some) (it_strL hs hj0 hj1 hx') (fun _ _ => rfl)) (bin_cat _ _ hcat)) rfl (fun _ => rfl)
  have L2 : LW2 (setL (Str.ofString "row") (.str (r1 ++ x)) loc1) si oi b e (r1 ++ x) := L1.set
  have hk2 : (setL (Str.ofString "row") (.str (r1 ++ x)) loc1).lookup (Str.ofString "k") = some (.int j) := lk_ne (by decide) hk1
  generalize setL (Str.ofString "row") (.str (r1 ++ x)) loc1 = loc2 at E2 L2 hk2
  have er : rowStep sh ow b e j row = if j + 1 = e ∨ ow[j]? ≠ ow[j + 1]? then r1 ++ x ++ one 187 else r1 ++ x := by
    unfold rowStep
    simp only [hr1, hx, Option.getD_some]
  rw [er]
  obtain ⟨loc3, E3, L3⟩ : ∃ loc3, Exs k (scA 267) loc2 cs (bRow.drop 2) .next loc3 cs ∧ LW2 loc3 si oi b e (if j + 1 = e ∨ ow[j]? ≠ ow[j + 1]? then r1 ++ x ++ one 187 else r1 ++ x) := by
    refine hideG fun Gq hGq => ?_
    obtain ⟨l1, l2, l3, l4, l5⟩ := L2
    refine hGq ?_
    clear hGq Gq
    have L2 : LW2 loc2 si oi b e (r1 ++ x) := ⟨l1, l2, l3, l4, l5⟩
    have teq : Tst k (scA 267) loc2 cs (match bRow.drop 2 with | .If (.BoolOp _ (t :: _) _) _ _ _ :: _ => t | _ => wRd.1) (((j : Nat) : Int) == ((e : Nat) : Int) - 1) cs := tst_cmpc (a := .int j) (b := .int (((e : Nat) : Int) - 1)) (by kl_some) (by kl_some) (cmp_eqI _ _).c rfl
    have asg : Exs k (scA 267) loc2 cs (match bRow.drop 2 with | .If _ b _ _ :: _ => b | _ => []) .next (setL (Str.ofString "row") (.str (r1 ++ x ++ one 187)) loc2) cs :=
      exs_cons (ex_assign (v := .str (r1 ++ x ++ one 187)) (ev_bin (a := .str (r1 ++ x)) (b := .str (one 187)) (by kl_some) (by kl_some) (bin_cat _ _ hcat2)) rfl (fun _ => rfl)) exs_nil
    by_cases hje : j + 1 = e
    · rw [if_pos (Or.inl hje)]
      exact ⟨_, exs_cons (ex_ifT (tst_or_t (tst_eq teq (by simp; omega))) asg) exs_nil, L2.set⟩
    · have hne : (((j : Nat) : Int) == ((e : Nat) : Int) - 1) = false := by simp; omega
      obtain ⟨o1, ho1⟩ : ∃ o, ow[j + 1]? = some o := ⟨_, List.getElem?_eq_getElem (by omega)⟩
      have hj2 : (0 : Int) ≤ ((j : Nat) : Int) + 1 := by omega
      have hj3 : ((j : Nat) : Int) + 1 ≤ 100000 := by omega
      have ho1' : ow[(((j : Nat) : Int) + 1).toNat]? = some o1 := by rw [show (((j : Nat) : Int) + 1).toNat = j + 1 by omega]; exact ho1
      have tne : Tst k (scA 267) loc2 cs (match bRow.drop 2 with | .If (.BoolOp _ (_ :: t :: _) _) _ _ _ :: _ => t | _ => wRd.1) (o0 != o1) cs :=
        tst_cmpc (a := .int o0) (b := .int o1) (ev_sub (by kl_some) (by kl_some) (it_intL ho hj0 hj1 ho0') (fun _ _ => rfl)) (ev_sub (i := .int (((j : Nat) : Int) + 1)) (by kl_some) (by kl_some) (it_intL ho hj2 hj3 ho1') (fun _ _ => rfl)) (cmp_neI _ _).c rfl
      by_cases hoo : o0 = o1
      · rw [if_neg (by rw [ho0, ho1, hoo]; simp [hje])]
        exact ⟨_, exs_cons (ex_ifF (tst_or_f (tst_eq teq hne) (tst_eq tne (by simp [hoo]))) exs_nil) exs_nil, L2⟩
      · rw [if_pos (Or.inr (by rw [ho0, ho1]; simpa using hoo))]
        exact ⟨_, exs_cons (ex_ifT (tst_or_f (tst_eq teq hne) (tst_eq tne (by simp [hoo]))) asg) exs_nil, L2.set⟩
  refine ⟨loc3, ?_, L3⟩
  exact exs_cons E1 (exs_cons E2 E3)
theorem rowStep_len {sh : List Str} {ow : List Int} {b e j : Nat} {row : Str} (h4 : ∀ x ∈ sh, x.length ≤ 10) : (rowStep sh ow b e j row).length ≤ row.length + 13 := by
  unfold rowStep
  have hx : ((sh[j]?).getD (Str.ofString "")).length ≤ 10 := by
    cases h : sh[j]? with
    | none => exact Nat.zero_le _
    | some x => exact h4 x (List.mem_of_getElem? h)
  have h1 : (if j = b then row ++ Str.ofString "" ++ one 171 else if ow[j]? ≠ ow[j - 1]? then row ++ Str.ofString " " ++ one 171 else row).length ≤ row.length + 2 := by
    split
    · rw [Str.length_append, Str.length_append]; show _ + 0 + 1 ≤ _; lia
    · split
      · rw [Str.length_append, Str.length_append]; show _ + 1 + 1 ≤ _; lia
      · omega
  simp only
  split
  · rw [Str.length_append, Str.length_append]; show _ + _ + 1 ≤ _; omega
  · rw [Str.length_append]; omega
theorem rangeL_cons {a b : Int} (h : a < b) : rangeL a b = .int a :: rangeL (a + 1) b := by
  unfold rangeL
  rw [show (b - a).toNat = (b - (a + 1)).toNat + 1 by lia, List.range_succ_eq_map]
  simp only [List.map_cons, List.map_map]
  congr 1
  · simp
  · apply List.map_congr_left
    intro x _
    show AV.int _ = AV.int _
    congr 1
    push_cast
    lia
theorem rangeL_nil {a b : Int} (h : b ≤ a) : rangeL a b = [] := by
  unfold rangeL
  rw [show (b - a).toNat = 0 by lia]; rfl
theorem row_loop {si oi b e : Nat} {sh : List Str} {ow : List Int} (hs : cs[si]? = some (.strL (sh.map some))) (ho : cs[oi]? = some (.intL ow)) (hN : sh.length = ow.length) (h100 : sh.length ≤ 300) (heN : e ≤ sh.length) (h4 : ∀ x ∈ sh, x.length ≤ 10) :
    ∀ (m j : Nat) (row : Str) (loc : Locs), j + m = e → b ≤ j → LW2 loc si oi b e row → row.length + 13 * m ≤ 5000 → ∃ loc', Fo k (scA 267) (Str.ofString "k") bRow (fun _ => True) (rangeL j e) loc cs loc' cs ∧ LW2 loc' si oi b e (rowGo sh ow b e m j row)
  | 0, j, row, loc, hm, hb, L, hr => ⟨loc, by rw [rangeL_nil (by omega)]; exact .nil trivial, L⟩
  | m + 1, j, row, loc, hm, hb, L, hr => by
    refine hideG fun Gq hGq => ?_
    obtain ⟨loc1, E, L1⟩ := row_turn (k := k) (loc := setL (Str.ofString "k") (.int j) loc) L.setk lk_eq hs ho hN (by lia) hb (by omega) heN (by lia) h4
    have hl := rowStep_len (ow := ow) (b := b) (e := e) (j := j) (row := row) h4
    obtain ⟨loc2, F, L2⟩ := row_loop hs ho hN h100 heN h4 m (j + 1) _ loc1 (by lia) (by omega) L1 (by omega)
    refine hGq ?_
    clear hGq Gq
    refine ⟨loc2, ?_, L2⟩
    rw [rangeL_cons (by omega)]
    exact .cons trivial E F
theorem cl_row {si oi b e : Nat} {sh : List Str} {ow : List Int} (hs : cs[si]? = some (.strL (sh.map some))) (ho : cs[oi]? = some (.intL ow)) (hN : sh.length = ow.length) (h100 : sh.length ≤ 300) (hbe : b ≤ e) (heN : e ≤ sh.length) (h4 : ∀ x ∈ sh, x.length ≤ 10) :
    Cl (k + 1) cs (.ref 267) [.obj si, .obj oi, .int b, .int e] (.str (rowF sh ow b e)) cs := by
  apply cl_bf (.ret (.str (rowF sh ow b e))) (fun P => fn267 P) rfl
  apply bf_cons (ex_assign ev_str rfl (fun _ => rfl))
  have L : LW2 (setL (Str.ofString "row") (.str (Str.ofString "")) ([Str.ofString "shown", Str.ofString "owner", Str.ofString "begin", Str.ofString "end"].zip [.obj si, .obj oi, .int b, .int e])) si oi b e (Str.ofString "") := ⟨rfl, rfl, rfl, rfl, rfl⟩
  obtain ⟨loc', F, L'⟩ := row_loop (k := k) hs ho hN h100 heN h4 (e - b) b _ _ (by omega) (Nat.le_refl _) L (by show 0 + _ ≤ _; omega)
  exact bf_cons (ex_forRange2 (ev_stat rfl (by kl_room) rfl) (by kl_some) rfl F (by omega) (by lia) (by omega) (by omega) (fun _ => rfl) (fun _ _ => rfl)) (bf_ret (ev_local rfl L'.row rfl))
end
end
section
open PySem PySem.W PyProof.Rows PySem.Calls

section
variable {w : World} {c : Cx w} {k : Nat} {sc : Scope} {ρ : List (List Addr)} {loc lc : Locs} {cs : List AC} {s s' : Shared} {C : Addr}
noncomputable def Cx.plus (c : Cx w) (C : Addr) (lc : Locs) : Cx w := { c with fs := (C, lc) :: c.fs }
noncomputable def Cx.flip (c : Cx w) (C : Addr) (loc : Locs) : Cx w := { c with L := C, fs := (c.L, loc) :: c.fs }
theorem Cx.OK.plus (O : c.OK k sc) : (c.plus C lc).OK k sc := ⟨O.hsc, O.kind, O.glob, O.blt, O.hd, O.fr, O.depth, O.units, fun e he => let ⟨a, p, hp, q⟩ := O.out e he; ⟨a, p, List.mem_cons_of_mem _ hp, q⟩⟩
theorem plus_perm (c : Cx w) (C : Addr) (lc loc : Locs) (l : List Addr) : List.Perm (c.L :: ((c.plus C lc).own ++ l)) (C :: ((c.flip C loc).own ++ l)) := List.Perm.swap _ _ _
theorem Rep.toFlip (R : Rep (c.plus C lc) ρ loc cs s) : Rep (c.flip C loc) ρ lc cs s := by
  refine ⟨R.stat, R.frs (C, lc) (.head _), ?_, R.frz, R.len, R.cells, (plus_perm c C lc loc _).nodup_iff.mp R.apart, fun a ha => R.fresh a ((plus_perm c C lc loc _).mem_iff.mpr ha)⟩
  intro p hp
  rcases List.mem_cons.mp hp with rfl | hp
  · exact R.fr
  · exact R.frs p (List.mem_cons_of_mem _ hp)
theorem Rep.ofFlip (R : Rep (c.flip C loc) ρ lc cs s) : Rep (c.plus C lc) ρ loc cs s := by
  refine ⟨R.stat, R.frs (c.L, loc) (.head _), ?_, R.frz, R.len, R.cells, (plus_perm c C lc loc _).nodup_iff.mpr R.apart, fun a ha => R.fresh a ((plus_perm c C lc loc _).mem_iff.mp ha)⟩
  intro p hp
  rcases List.mem_cons.mp hp with rfl | hp
  · exact R.fr
  · exact R.frs p (List.mem_cons_of_mem _ hp)
theorem Rep.setPlus (R : Rep (c.plus C lc) ρ loc cs s) {m : Str → Option Value} {h' : Heap} {x : Str} {v : AV} {v' : Value} {tk : Tok} (hm : s.heap.Ns C m) (hl : ∀ y u, lc.lookup y = some u → ∃ u', m y = some u' ∧ VRep ρ s.heap u u')
    (hn : h'.Ns C (fun y => if y = x then some v' else m y)) (hs : Heap.SameBut C s.heap h') (hv : VRep ρ s.heap v v') : TK s.heap h' ∧ Rep (c.plus C (setL x v lc)) ρ loc cs { s with heap := h', toks := tk } :=
  have P := R.toFlip.setLoc (c := c.flip C loc) (tk := tk) hm hl hn hs hv
  ⟨P.tk, P.rep.ofFlip⟩
theorem Rep.dropPlus (R : Rep (c.plus C lc) ρ loc cs s) {h' : Heap} (hs : Heap.SameBut C s.heap h') : TK s.heap h' ∧ Rep c ρ loc cs { s with heap := h' } := by
  refine hideG fun Gq hGq => ?_
  obtain ⟨oC, es, ep, hoC, hd⟩ := R.toFlip.Lget
  refine hGq ?_
  clear hGq Gq
  have hoC' : s.heap.get? C = some oC := hoC
  have tk0 : TK s.heap h' := dict_not_tuple hd hoC' hs.extBut
  have hx := hs.extBut
  have nd := (plus_perm c C lc loc _).nodup_iff.mp R.apart
  have nd1 : C ∉ c.L :: (c.own ++ ρ.flatten) := (List.nodup_cons.mp nd).1
  have nd2 : (c.L :: (c.own ++ ρ.flatten)).Nodup := (List.nodup_cons.mp nd).2
  have frC : c.B.h.get? C = none ∧ C ∉ tabs := R.fresh C (List.mem_cons_of_mem _ (.head _))
  have ne : ∀ a ∈ c.L :: (c.own ++ ρ.flatten), a ≠ C := fun a ha e => nd1 (e ▸ ha)
  refine ⟨tk0, ⟨⟨fun b o e n => hx b o (by rintro rfl; cases frC.1.symm.trans e) (R.stat.keep b o e n), fun b hb => let ⟨vs, e, te⟩ := R.stat.tab b hb; ⟨vs, hx b _ (by rintro rfl; exact frC.2 hb) e, te⟩, R.stat.bare, R.stat.os⟩, ?_, ?_, ?_, R.len, ?_, nd2, ?_⟩⟩
  · exact R.fr.mono (List.prefix_refl _) tk0 fun _ n => n.extBut hx (ne _ (.head _))
  · exact fun p hp => (R.frs p (List.mem_cons_of_mem _ hp)).mono (List.prefix_refl _) tk0 fun _ n => n.extBut hx (ne _ (List.mem_cons_of_mem _ (List.mem_append_left _ (List.mem_append_left _ (List.mem_map_of_mem hp)))))
  · exact fun p hp => hx _ _ (ne _ (List.mem_cons_of_mem _ (List.mem_append_left _ (List.mem_append_right _ (List.mem_map_of_mem hp))))) (R.frz p hp)
  · exact fun i ac as hi ha => (R.cells i ac as hi ha).mono (List.prefix_refl _) tk0 (fun a hm o e => hx a o (ne _ (List.mem_cons_of_mem _ (List.mem_append_right _ (getElem?_mem_flatten ha hm)))) e) fun _ _ e => e
  · intro a ha
    rcases List.mem_cons.mp ha with rfl | ha
    · exact R.fresh _ (.head _)
    · exact R.fresh a (List.mem_cons_of_mem _ (List.mem_cons_of_mem _ ha))
theorem Rep.addPlus (R : Rep c ρ loc cs s) {h' : Heap} {tk : Tok} {m} (hn : h'.Ns C m) (hC : s.heap.objs.size ≤ C) (hk : ∀ b o, s.heap.get? b = some o → h'.get? b = some o) : Rep (c.plus C []) ρ loc cs { s with heap := h', toks := tk } := by
  have R' := R.heap (h' := h') (tk := tk) hk
  have hno : C ∉ c.L :: (c.own ++ ρ.flatten) := fun hm => Nat.lt_irrefl _ (Nat.lt_of_lt_of_le (R.owned C hm) hC)
  refine Rep.ofFlip ⟨R'.stat, ⟨m, hn, fun x v e => by simp at e⟩, ?_, R'.frz, R'.len, R'.cells, List.nodup_cons.mpr ⟨hno, R.apart⟩, fun a ha => ?_⟩
  · intro p hp
    rcases List.mem_cons.mp hp with rfl | hp
    · exact R'.fr
    · exact R'.frs p hp
  · rcases List.mem_cons.mp ha with rfl | ha
    · exact R.stat.new hC
    · exact R.fresh a ha

structure CE (c : Cx w) (ρ0 : List (List Addr)) (cenv : Env) (C : Addr) (sc : Scope) (fv : List (Str × Nat)) : Prop where
  locals : cenv.locals = C
  globals : cenv.globals = mainGlobals
  builtins : cenv.builtins = builtinsNs
  kind : cenv.scope.kind = .function
  loc : ∀ x, sc.names.lookup x = some .local → cenv.kindOf x = some .local
  gl : ∀ x, sc.names.lookup x = some .globalImplicit → cenv.kindOf x = some .globalImplicit
  fv : ∀ x id, fv.lookup x = some id → cenv.kindOf x = some .cell ∧ ∃ b a r o, cenv.cells.lookup x = some b ∧ ρ0[id]? = some (a :: r) ∧ (b, o) ∈ c.fz ∧ o.data = .cell (some (.ref a))
theorem CE.ice {ρ0 cenv sc fv} (H : CE c ρ0 cenv C sc fv) (I : Addr) (o : Obj) : CE (c.ice I o) ρ0 cenv C sc fv :=
  ⟨H.locals, H.globals, H.builtins, H.kind, H.loc, H.gl, fun x id h => (H.fv x id h).imp (fun e => e) fun ⟨b, a, r, o, h1⟩ => ⟨b, a, r, o, h1.1, h1.2.1, List.mem_cons_of_mem _ h1.2.2.1, h1.2.2.2⟩⟩
end

noncomputable def CEv (k : Nat) (sc : Scope) (fv : List (Str × Nat)) (loc : Locs) (lc : Locs) (cs : List AC) (e : Expr) (v : AV) (cs' : List AC) : Prop :=
  ∀ (w : World) (c : Cx w) (C : Addr) (cenv : Env) ρ0 ρ s sco, c.OK k sco → CE c ρ0 cenv C sc fv → ρ0 <+: ρ → Rep (c.plus C lc) ρ loc cs s →
    wpAny (MD w) c.A (eval e cenv) (fun v' s' => ∃ ρ', Post (c.plus C lc) ρ s loc cs' s' ρ' ∧ VRep ρ' s'.heap v v') (fun _ _ => False) s
noncomputable def CEvL (k : Nat) (sc : Scope) (fv : List (Str × Nat)) (loc : Locs) (lc : Locs) (cs : List AC) (es : List Expr) (vs : List AV) (cs' : List AC) : Prop :=
  ∀ (w : World) (c : Cx w) (C : Addr) (cenv : Env) ρ0 ρ s sco pos, c.OK k sco → CE c ρ0 cenv C sc fv → ρ0 <+: ρ → Rep (c.plus C lc) ρ loc cs s →
    wpAny (MD w) c.A (spliced (backTo pos (starEach es cenv))) (fun vs' s' => ∃ ρ', Post (c.plus C lc) ρ s loc cs' s' ρ' ∧ All2 (VRep ρ' s'.heap) vs vs') (fun _ _ => False) s
section
variable {k : Nat} {sc : Scope} {fv : List (Str × Nat)} {loc lc : Locs} {cs : List AC}
theorem cev_int {i n p} : CEv k sc fv loc lc cs (.Constant (.int i) n p) (.int i) cs := fun w c C cenv ρ0 ρ s sco O H hp R => wpAny_Constant_int ⟨ρ, .tok R _, _, rfl⟩
theorem cev_local {x : Str} {p : Pos} {v : AV} (hx : sc.names.lookup x = some .local) (hv : lc.lookup x = some v) (hd : (x == ("__debug__" : Str)) = false) : CEv k sc fv loc lc cs (.Name x p) v cs := by
  intro w c C cenv ρ0 ρ s sco O H hp R
  refine hideG fun Gq hGq => ?_
  obtain ⟨m, n, q⟩ := R.frs (C, lc) (.head _)
  obtain ⟨v', e, r⟩ := q x v hv
  refine hGq ?_
  clear hGq Gq
  exact wpAny_Name (wpAny_loadName_local H.kind (H.loc _ hx) (by rw [H.locals]; exact n) e ⟨ρ, .refl R, r⟩) hd
theorem cev_free {x : Str} {p : Pos} {id : Nat} (hx : fv.lookup x = some id) (hd : (x == ("__debug__" : Str)) = false) : CEv k sc fv loc lc cs (.Name x p) (.obj id) cs := by
  intro w c C cenv ρ0 ρ s sco O H hp R
  refine hideG fun Gq hGq => ?_
  obtain ⟨q, b, a, r, o, h1, h2, h3, h4⟩ := H.fv x id hx
  refine hGq ?_
  clear hGq Gq
  exact wpAny_Name (wpAny_loadName_cell H.kind q h1 ⟨o, R.frz (b, o) h3, h4⟩ ⟨ρ, .refl R, a, r, prefix_get hp h2, rfl⟩) hd
theorem cev_stat {x : Str} {p : Pos} {v : Value} (hx : sc.names.lookup x = some .globalImplicit) (g : Gl x v) (hd : (x == ("__debug__" : Str)) = false) : CEv k sc fv loc lc cs (.Name x p) (.stat v) cs := by
  intro w c C cenv ρ0 ρ s sco O H hp R
  refine Name_function_global H.kind (H.gl _ hx) ?_ hd
  have n1 : s.heap.Ns cenv.globals c.B.mg := by rw [H.globals]; exact R.stat.ns c.B.ng (by decide)
  have n2 : s.heap.Ns cenv.builtins c.B.mb := by rw [H.builtins]; exact R.stat.ns c.B.nb (by decide)
  rcases g w c.B with e | ⟨e1, e2⟩
  · exact loadGlobal_global n1 e ⟨ρ, .refl R, rfl⟩
  · exact loadGlobal_builtin n1 e1 n2 e2 ⟨ρ, .refl R, rfl⟩
theorem cev_bin {l r : Expr} {op p a b v cs1 cs2} (h1 : CEv k sc fv loc lc cs l a cs1) (h2 : CEv k sc fv loc lc cs1 r b cs2) (ho : BinOK op a b v) : CEv k sc fv loc lc cs (.BinOp l op r p) v cs2 := by
  intro w c C cenv ρ0 ρ s sco O H hp R
  refine wpAny_BinOp (wpAny_mono (h1 w c C cenv ρ0 ρ s sco O H hp R) (fun va s1 h => ?_) fun _ _ x => x.elim)
  obtain ⟨ρ1, P1, V1⟩ := h
  refine wpAny_mono (h2 w c C cenv ρ0 ρ1 s1 sco O H (hp.trans P1.pre) P1.rep) (fun vb s2 h => ?_) fun _ _ x => x.elim
  obtain ⟨ρ2, P2, V2⟩ := h
  exact ho w c.A ρ2 s2 va vb _ _ (V1.mono P2.pre P2.tk) V2 fun v' tk q => ⟨ρ2, (P1.trans P2).trans (.tok P2.rep tk), q⟩
theorem cev_sub {value slice : Expr} {pos a i v cs1 cs2} (h1 : CEv k sc fv loc lc cs value a cs1) (h2 : CEv k sc fv loc lc cs1 slice i cs2) (ho : ItC k cs2 a i v) (hs : ∀ o i, subscripted slice false o i = operate [o, i] (getItem o i)) : CEv k sc fv loc lc cs (.Subscript value slice pos) v cs2 := by
  intro w c C cenv ρ0 ρ s sco O H hp R
  refine Subscript_ (wpAny_mono (h1 w c C cenv ρ0 ρ s sco O H hp R) (fun va s1 h => ?_) fun _ _ x => x.elim)
  obtain ⟨ρ1, P1, V1⟩ := h
  refine wpAny_mono (h2 w c C cenv ρ0 ρ1 s1 sco O H (hp.trans P1.pre) P1.rep) (fun vi s2 h => ?_) fun _ _ x => x.elim
  refine hideG fun Gq hGq => ?_
  obtain ⟨ρ2, P2, V2⟩ := h
  obtain ⟨T, id, hT, hl, hg⟩ := ho w (c.plus C lc) ρ2 loc s2 sco va vi O.plus P2.rep (V1.mono P2.pre P2.tk) V2
  refine hGq ?_
  clear hGq Gq
  exact tail_any hT hl (hg _ fun v' tk q => ⟨ρ2, (P1.trans P2).trans (.tok P2.rep tk), q⟩) (hs _ _)
theorem cevl_nil : CEvL k sc fv loc lc cs [] [] cs := fun w c C cenv ρ0 ρ s sco pos O H hp R => wpAny_items_nil ⟨ρ, .refl R, .nil⟩
theorem cevl_cons {e : Expr} {es v vs cs1 cs2} (h : CEv k sc fv loc lc cs e v cs1) (h2 : CEvL k sc fv loc lc cs1 es vs cs2) (he : ∀ env, starEach (e :: es) env = (false, eval e env) :: starEach es env) : CEvL k sc fv loc lc cs (e :: es) (v :: vs) cs2 := by
  intro w c C cenv ρ0 ρ s sco pos O H hp R
  refine wpAny_items_cons (wpAny_mono (h w c C cenv ρ0 ρ s sco O H hp R) (fun v' s1 h => ?_) fun _ _ x => x.elim) (he _)
  obtain ⟨ρ1, P1, V1⟩ := h
  refine wpAny_mono (h2 w c C cenv ρ0 ρ1 s1 sco pos O H (hp.trans P1.pre) P1.rep) (fun vs' s2 h => ?_) fun _ _ x => x.elim
  obtain ⟨ρ2, P2, V2⟩ := h
  exact ⟨ρ2, P1.trans P2, .cons (V1.mono P2.pre P2.tk) V2⟩
theorem cev_call {x : Str} {p pos : Pos} {args : List Expr} {f : Value} {avs : List AV} {v cs1 cs2} (hf : CEv k sc fv loc lc cs (.Name x p) (.stat f) cs) (ha : CEvL k sc fv loc lc cs args avs cs1)
    (hc : Cl k cs1 f avs v cs2) (hcal : Callee f) (he : ∀ env, starEach args env = args.map fun e => (false, eval e env)) : CEv k sc fv loc lc cs (.Call (.Name x p) args [] pos) v cs2 := by
  intro w c C cenv ρ0 ρ s sco O H hp R
  refine wpAny_Call_NameR (wpAny_mono (hf w c C cenv ρ0 ρ s sco O H hp R) (fun f' s1 h => ?_) fun _ _ x => x.elim)
  obtain ⟨ρ1, P1, rfl⟩ := h
  have body : wpAny (MD w) c.A (spliced (backTo pos (starEach args cenv))) (fun vs s' => ∃ ρ2, Post (c.plus C lc) ρ1 s1 loc cs1 s' ρ2 ∧ All2 (VRep ρ2 s'.heap) avs vs) (fun _ _ => False) s1 := ha w c C cenv ρ0 ρ1 s1 sco pos O H (hp.trans P1.pre) P1.rep
  have fin : ∀ (vs : List Value) (s2 : Shared) ρ2, Post (c.plus C lc) ρ1 s1 loc cs1 s2 ρ2 → All2 (VRep ρ2 s2.heap) avs vs → wpAny (MD w) c.A (call f' ([] ++ vs)) (fun v' s' => ∃ ρ', Post (c.plus C lc) ρ s loc cs2 s' ρ' ∧ VRep ρ' s'.heap v v') (fun _ _ => False) s2 := by
    intro vs s2 ρ2 P2 V2
    refine wpAny_mono (hc w (c.plus C lc) ρ2 loc s2 vs sco O.plus P2.rep V2) (fun v' s3 h => ?_) fun _ _ x => x
    obtain ⟨ρ3, P3, V3⟩ := h
    exact ⟨ρ3, (P1.trans P2).trans P3, V3⟩
  cases f' with
  | builtin id => exact callWith_builtin (backTo_plain _ _ _ (he _)) (wpAny_callArgs (wpAny_mono body (fun vs s2 ⟨ρ2, P2, V2⟩ => fin vs s2 ρ2 P2 V2) fun _ _ x => x) (he _))
  | type T => exact PySem.callWith_type (backTo_plain _ _ _ (he _)) (wpAny_callArgs (wpAny_mono body (fun vs s2 ⟨ρ2, P2, V2⟩ => fin vs s2 ρ2 P2 V2) fun _ _ x => x) (he _))
  | ref a =>
    refine hideG fun Gq hGq => ?_
    obtain ⟨oc, od, fd, sl, hat, hnt⟩ := hcal w.params
    refine hGq ?_
    clear hGq Gq
    refine callWith_function (o := ⟨oc, od, .func fd, sl⟩) (fd := fd) (wpAny_callArgs (wpAny_mono body (fun vs s2 ⟨ρ2, P2, V2⟩ => ⟨⟨P2.rep.stat.keep _ _ (c.B.K _ _ hat) hnt, rfl⟩, fin vs s2 ρ2 P2 V2⟩) fun _ _ x => x) (he _))
  | _ => exact hcal.elim
end
end
section
open PySem PySem.W PyProof.Rows PySem.Calls

structure Itr {w : World} (A : Around) (ρ0 : List (List Addr)) (I : Addr) (items : List AV) (K : List AC → Prop) (P : Nat → Obj → Prop) : Prop where
  nt : ∀ i o, P i o → o.cls ≠ .type "tuple"
  nxt : ∀ i v (c : Cx w) loc cs ρ s o (Q : Option Value → Shared → Prop) (E : Value → Shared → Prop), items[i]? = some v → P i o → K cs → ρ0 <+: ρ → Rep c ρ loc cs s → s.heap.get? I = some o →
      (∀ v' o' h' tk, VRep ρ s.heap v v' → P (i + 1) o' → h'.get? I = some o' → Heap.ExtBut I s.heap h' → Q (some v') { s with heap := h', toks := tk }) → wpAny (MD w) A (pyNext (.ref I)) Q E s
  fin : ∀ (c : Cx w) loc cs ρ s o (Q : Option Value → Shared → Prop) (E : Value → Shared → Prop), P items.length o → K cs → ρ0 <+: ρ → Rep c ρ loc cs s → s.heap.get? I = some o →
      (∀ h' tk, Heap.ExtBut I s.heap h' → Q none { s with heap := h', toks := tk }) → wpAny (MD w) A (pyNext (.ref I)) Q E s
  self : ∀ i o (s : Shared) (Q : Value → Shared → Prop) (E : Value → Shared → Prop), P i o → s.heap.get? I = some o → Q (.ref I) s → wpAny (MD w) A (pyIter (.ref I)) Q E s

noncomputable def signs (x : Str) : List AV := x.cps.toList.map fun c => AV.str ⟨#[c]⟩
noncomputable def PStr (x : Str) (t : Tok) (i : Nat) (o : Obj) : Prop := o.cls = .type (strIterType x) ∧ o.data = .fields #[.str x t, .int i 0]
theorem itr_str {w : World} {A : Around} (hA : A.handled = none) (ρ0 : List (List Addr)) (I : Addr) (x : Str) (t : Tok) : Itr (w := w) A ρ0 I (signs x) (fun _ => True) (PStr x t) := by
  have hl : (signs x).length = x.cps.size := by simp [signs]
  refine ⟨fun i o h => by rw [h.1]; unfold strIterType; split <;> simp, ?_, ?_, ?_⟩
  · rintro i v c loc cs ρ s o Q E hi ⟨h1, h2⟩ _ _ R ho q
    have hc : ∃ c, x.cps[i]? = some c ∧ v = .str ⟨#[c]⟩ := by
      unfold signs at hi
      rw [List.getElem?_map, Array.getElem?_toList] at hi
      cases e : x.cps[i]? with
      | none => rw [e] at hi; simp at hi
      | some c => rw [e] at hi; simp at hi; exact ⟨c, rfl, hi.symm⟩
    obtain ⟨c', hc, rfl⟩ := hc
    have hT : strIterType x = "str_ascii_iterator" ∨ strIterType x = "str_iterator" := by unfold strIterType; split <;> simp
    rcases hT with e | e
    · refine wpAny_pyNext_ascii_item (x := x) (t := t) (i := i) ⟨o, ho, by rw [h1, e], h2⟩ hc fun h' hit hs => ?_
      refine hideG fun Gq hGq => ?_
      obtain ⟨o', g1, g2, g3⟩ := hit
      refine hGq ?_
      clear hGq Gq
      exact q _ o' _ (s.toks + 1) ⟨_, rfl⟩ ⟨by rw [g2, e], g3⟩ g1 hs.extBut
    · refine wpAny_pyNext_wide_item (x := x) (t := t) (i := i) ⟨o, ho, by rw [h1, e], h2⟩ hc fun h' hit hs => ?_
      refine hideG fun Gq hGq => ?_
      obtain ⟨o', g1, g2, g3⟩ := hit
      refine hGq ?_
      clear hGq Gq
      exact q _ o' _ (s.toks + 1) ⟨_, rfl⟩ ⟨by rw [g2, e], g3⟩ g1 hs.extBut
  · rintro c loc cs ρ s o Q E ⟨h1, h2⟩ _ _ R ho q
    have hT : strIterType x = "str_ascii_iterator" ∨ strIterType x = "str_iterator" := by unfold strIterType; split <;> simp
    rw [hl] at h2
    have hnone : x.cps[x.cps.size]? = none := by simp
    rcases hT with e | e
    · exact wpAny_pyNext_ascii_end hA (x := x) (t := t) (i := x.cps.size) ⟨o, ho, by rw [h1, e], h2⟩ hnone fun h' hs => q h' s.toks hs
    · exact wpAny_pyNext_wide_end hA (x := x) (t := t) (i := x.cps.size) ⟨o, ho, by rw [h1, e], h2⟩ hnone fun h' hs => q h' s.toks hs
  · rintro i o s Q E ⟨h1, h2⟩ ho q
    have hT : strIterType x = "str_ascii_iterator" ∨ strIterType x = "str_iterator" := by unfold strIterType; split <;> simp
    rcases hT with e | e
    · exact wpAny_pyIter_striter_ascii (x := x) (t := t) (i := i) ⟨o, ho, by rw [h1, e], h2⟩ q
    · exact wpAny_pyIter_striter_wide (x := x) (t := t) (i := i) ⟨o, ho, by rw [h1, e], h2⟩ q
noncomputable def PRng (a b : Int) (i : Nat) (o : Obj) : Prop := o = { cls := .type "range_iterator", data := .fields #[rawInt (a + i), rawInt ((if a < b then b - a else 0) - i), rawInt 1] }
theorem itr_range {w : World} {A : Around} (hA : A.handled = none) (ρ0 : List (List Addr)) (I : Addr) (a b : Int) : Itr (w := w) A ρ0 I (rangeL a b) (fun _ => True) (PRng a b) := by
  refine ⟨fun i o h => by rw [h]; simp, ?_, ?_, ?_⟩
  · rintro i v c loc cs ρ s o Q E hi rfl _ _ R hat q
    obtain ⟨h1, rfl⟩ := rangeL_get hi
    refine wpAny_pyNext_range_item (x := a + i) (left := (if a < b then b - a else 0) - i) (step := 1) hat (by split <;> lia) fun h' hit hsb => ?_
    have e1 : a + (i : Int) + 1 = a + ((i + 1 : Nat) : Int) := by lia
    have e2 : (if a < b then b - a else 0) - (i : Int) - 1 = (if a < b then b - a else 0) - ((i + 1 : Nat) : Int) := by lia
    rw [e1, e2] at hit
    exact q _ _ _ _ ⟨_, rfl⟩ rfl hit hsb.extBut
  · rintro c loc cs ρ s o Q E rfl _ _ R hat q
    have hlen : ((rangeL a b).length : Int) = if a < b then b - a else 0 := by
      unfold rangeL; simp; split <;> lia
    exact wpAny_pyNext_range_end hA hat (by rw [hlen]; lia) fun h' hx' => q h' _ hx'
  · rintro i o s Q E rfl hat q
    exact wpAny_pyIter_rangeiter hat q
noncomputable def PLst (a : Addr) (i : Nat) (o : Obj) : Prop := o.cls = .type "list_iterator" ∧ o.data = .fields #[.ref a, .int i 0]
theorem itr_list {w : World} {A : Around} (hA : A.handled = none) {ρ0 : List (List Addr)} (I : Addr) {id : Nat} {a : Addr} {r : List Addr} {items : List AV} {ac : AC} (ha : ρ0[id]? = some (a :: r))
    (hac : ∀ (P : Params) ρ s as, CellAt P ρ s ac as → ∃ a vs, as = [a] ∧ s.heap.IsList a (List.toArray vs) ∧ vs.length = items.length ∧ ∀ (i : Nat) v, items[i]? = some v → ∃ v', vs[i]? = some v' ∧ VRep ρ s.heap v v') :
    Itr (w := w) A ρ0 I items (fun cs => cs[id]? = some ac) (PLst a) := by
  refine ⟨fun i o h => by rw [h.1]; simp, ?_, ?_, ?_⟩
  · rintro i v c loc cs ρ s o Q E hi ⟨h1, h2⟩ hK hp R hat q
    refine hideG fun Gq hGq => ?_
    obtain ⟨a', vs', e, hl', hlen, hv⟩ := hac _ _ _ _ (R.cells _ _ _ hK (prefix_get hp ha))
    refine hGq ?_
    clear hGq Gq
    cases e
    obtain ⟨v', hv1, hv2⟩ := hv i v hi
    refine wpAny_pyNext_list_item (i := i) ⟨o, hat, h1, h2⟩ hl' (by simpa using hv1) fun h' hit hsb => ?_
    refine hideG fun Gq hGq => ?_
    obtain ⟨o', g1, g2, g3⟩ := hit
    refine hGq ?_
    clear hGq Gq
    exact q _ o' _ s.toks hv2 ⟨g2, by rw [g3]⟩ g1 hsb.extBut
  · rintro c loc cs ρ s o Q E ⟨h1, h2⟩ hK hp R hat q
    refine hideG fun Gq hGq => ?_
    obtain ⟨a', vs', e, hl', hlen, hv⟩ := hac _ _ _ _ (R.cells _ _ _ hK (prefix_get hp ha))
    refine hGq ?_
    clear hGq Gq
    cases e
    exact wpAny_pyNext_list_end hA (i := items.length) ⟨o, hat, h1, h2⟩ hl' (by simp; lia) fun h' hx' => q h' s.toks hx'
  · rintro i o s Q E ⟨h1, h2⟩ ho q
    exact wpAny_pyIter_listiter (i := i) ⟨o, ho, h1, h2⟩ q

inductive CI (k : Nat) (sc : Scope) (fv : List (Str × Nat)) (loc : Locs) (x : Str) (elt : Expr) (t : Nat) (K : List AC → Prop) : List AV → Locs → List AC → Locs → List AC → Prop
  | nil {lc cs} : K cs → CI k sc fv loc x elt t K [] lc cs lc cs
  | cons {v vs lc cs y cs1 cs2 lc' cs'} : K cs → CEv k sc fv loc (setL x v lc) cs elt y cs1 → Cl k cs1 (.builtin "list.append") [.obj t, y] .none cs2 → CI k sc fv loc x elt t K vs (setL x v lc) cs2 lc' cs' → CI k sc fv loc x elt t K (v :: vs) lc cs lc' cs'
theorem CI.here {k sc fv loc x elt t K vs lc cs lc' cs'} (h : CI k sc fv loc x elt t K vs lc cs lc' cs') : K cs := by cases h <;> assumption

theorem compTurn_list2 (elt target iter : Expr) (g1 : Comprehension) (scope : Scope) (pos : Pos) (it acc : Value) (env : Env) :
    compTurn (.ListComp elt [g1, ⟨target, iter, [], 0⟩] scope pos) 1 it acc env = (standAt iter.pos >>= fun _ => pyNext it >>= fun r => match r with
      | none => pure (.done .next)
      | some v => letOwnedTupleGo target it v >>= fun _ => assign target env v >>= fun _ =>
        (eval elt env >>= fun x => call (.builtin "list.append") [acc, x] >>= fun _ => pure ()) >>= fun _ =>
          again (.compLoop (.ListComp elt [g1, ⟨target, iter, [], 0⟩] scope pos) 1 it acc env)) := by rfl
theorem compTurn_list0 (elt target iter target2 iter2 : Expr) (scope : Scope) (pos : Pos) (it acc : Value) (env : Env) :
    compTurn (.ListComp elt [⟨target, iter, [], 0⟩, ⟨target2, iter2, [], 0⟩] scope pos) 0 it acc env = (standAt iter.pos >>= fun _ => pyNext it >>= fun r => match r with
      | none => pure (.done .next)
      | some v => letOwnedTupleGo target it v >>= fun _ => assign target env v >>= fun _ =>
        (eval iter2 env >>= fun x => standAt iter2.pos >>= fun _ => foldedSetIterable iter2 env x >>= fun x => holding [x] (pyIter x) >>= fun it' =>
          runOwn (.compStart (.ListComp elt [⟨target, iter, [], 0⟩, ⟨target2, iter2, [], 0⟩] scope pos) 1 it' acc env) env >>= fun _ =>
          again (.compLoop (.ListComp elt [⟨target, iter, [], 0⟩, ⟨target2, iter2, [], 0⟩] scope pos) 0 it acc env))) := by rfl

theorem ci_core {w : World} {c : Cx w} {k : Nat} {sc : Scope} {fv : List (Str × Nat)} {sco : Scope} {loc : Locs} (O : c.OK k sco) {cenv : Env} {C : Addr} {ρ0 : List (List Addr)} (H : CE c ρ0 cenv C sc fv) {elt iter : Expr} {gens : List Comprehension} {scope : Scope} {pos px : Pos} {d : Nat} {x : Str} {I a t : Nat} {r : List Addr}
    (heq : ∀ it acc env, compTurn (.ListComp elt gens scope pos) d it acc env = (standAt iter.pos >>= fun _ => pyNext it >>= fun r => match r with
      | none => pure (.done .next)
      | some v => letOwnedTupleGo (.Name x px) it v >>= fun _ => assign (.Name x px) env v >>= fun _ =>
        (eval elt env >>= fun x => call (.builtin "list.append") [acc, x] >>= fun _ => pure ()) >>= fun _ =>
          again (.compLoop (.ListComp elt gens scope pos) d it acc env)))
    (hx : sc.names.lookup x = some .local) (hacc : ρ0[t]? = some (a :: r)) {items : List AV} {K : List AC → Prop} {P : Nat → Obj → Prop} (T : Itr (w := w) c.A ρ0 I items K P) {lc lc' : Locs} {cs cs' : List AC} (h : CI k sc fv loc x elt t K items lc cs lc' cs')
    {ρ : List (List Addr)} {s : Shared} {o : Obj} (hp : ρ0 <+: ρ) (hP : P 0 o) (R : Rep ((c.plus C lc).ice I o) ρ loc cs s) :
    codeAny (MD w) c.A (.compLoop (.ListComp elt gens scope pos) d (.ref I) (.ref a) cenv) (fun r s' => r = .ok .next ∧ ∃ ρ', Post (c.plus C lc') ρ s loc cs' s' ρ') s := by
  refine hideG fun Gq hGq => ?_
  obtain ⟨Fn, hFn⟩ : ∃ Fn : Shared → Prop, ∀ s', Fn s' ↔ ∃ ρ', Post (c.plus C lc') ρ s loc cs' s' ρ' := ⟨_, fun _ => Iff.rfl⟩
  obtain ⟨Iv, hIv⟩ : ∃ Iv : Nat → Shared → Prop, ∀ n s1, Iv n s1 ↔ ∃ ρ1 lc1 cs1 o1 i, n + i = items.length ∧ P i o1 ∧ CI k sc fv loc x elt t K (items.drop i) lc1 cs1 lc' cs' ∧ ρ <+: ρ1 ∧ TK s.heap s1.heap ∧ Rep ((c.plus C lc1).ice I o1) ρ1 loc cs1 s1 := ⟨_, fun _ _ => Iff.rfl⟩
  refine hGq ?_
  clear hGq Gq
  refine codeAny_mono (R := fun r s' => r = .ok .next ∧ Fn s') ?_ (fun r s' h => ⟨h.1, (hFn s').mp h.2⟩)
  refine codeAny_loop rfl Iv ?_ items.length ((hIv _ _).mpr ⟨ρ, lc, cs, o, 0, by simp, hP, by simpa using h, List.prefix_refl _, TK.refl _, R⟩)
  intro n s1 hI0
  refine hideG fun Gq hGq => ?_
  obtain ⟨ρ1, lc1, cs1, o1, i, hn, hPi, F, hpp, htk, R1⟩ := (hIv n s1).mp hI0
  refine hGq ?_
  clear hGq Gq
  show wpAny _ _ ((compTurn (.ListComp elt gens scope pos) d (.ref I) (.ref a) cenv).onRaise (fun x => do noteFrame x cenv; theTreesLotGoes x)) _ _ s1
  refine wpAny_noted ?_
  rw [heq]
  have hat := R1.frz (I, o1) (.head _)
  refine wpAny_bind (wpAny_standAt (wpAny_bind ?_))
  by_cases hi : i < items.length
  · rw [List.drop_eq_getElem_cons hi] at F
    cases F with
    | cons hK B HA F =>
      refine T.nxt i _ ((c.plus C lc1).ice I o1) loc cs1 ρ1 s1 o1 _ _ (List.getElem?_eq_getElem hi) hPi hK (hp.trans hpp) R1 hat fun v' o' h' tk V P' hI hx' => ?_
      refine hideG fun Gq hGq => ?_
      obtain ⟨R2, tk2⟩ := R1.reice (tk := tk) hx' hI (T.nt _ _ hPi)
      have R2' : Rep ((c.ice I o').plus C lc1) ρ1 loc cs1 { s1 with heap := h', toks := tk } := R2
      obtain ⟨m, nn, q⟩ := R2'.frs (C, lc1) (.head _)
      refine hGq ?_
      clear hGq Gq
      refine wpAny_bind (wpAny_of_eq (show letOwnedTupleGo (.Name x px) (.ref I) v' = pure () from rfl) ?_)
      refine wpAny_bind (wpAny_assign_Name (wpAny_storeName_local (H.loc _ hx) (by rw [H.locals]; exact nn) (fun h'' hn' hsb => ?_) (by rw [H.kind]; rfl)))
      rw [H.locals] at hn' hsb
      obtain ⟨tk3, R3⟩ := R2'.setPlus (tk := tk + 1) nn q hn' hsb (V.mono (List.prefix_refl _) tk2)
      refine wpAny_bind (wpAny_bind (wpAny_mono (B w (c.ice I o') C cenv ρ0 ρ1 _ sco (O.ice I o') (H.ice I o') (hp.trans hpp) R3) (fun y s3 hy => ?_) fun _ _ x => x.elim))
      obtain ⟨ρ3, P3, V3⟩ := hy
      have hacc3 : ρ3[t]? = some (a :: r) := prefix_get ((hp.trans hpp).trans P3.pre) hacc
      refine wpAny_bind (wpAny_mono (HA w ((c.ice I o').plus C _) ρ3 loc s3 [.ref a, y] sco (O.ice I o').plus P3.rep (.cons ⟨a, r, hacc3, rfl⟩ (.cons V3 .nil))) (fun y' s4 h4 => ?_) fun _ _ x => x.elim)
      obtain ⟨ρ4, P4, _⟩ := h4
      refine wpAny_pure (wpAny_pure ⟨rfl, n - 1, by lia, (hIv _ _).mpr ⟨ρ4, _, _, o', i + 1, by lia, P', F, (hpp.trans P3.pre).trans P4.pre, (((htk.trans tk2).trans tk3).trans P3.tk).trans P4.tk, P4.rep⟩⟩)
  · have hi' : i = items.length := by lia
    subst hi'
    rw [List.drop_length] at F
    cases F with
    | nil hK =>
      refine T.fin ((c.plus C lc').ice I o1) loc cs' ρ1 s1 o1 _ _ hPi hK (hp.trans hpp) R1 hat fun h' tk hx' => ?_
      obtain ⟨R2, tk2⟩ := R1.thaw (tk := tk) hx' (T.nt _ _ hPi)
      exact wpAny_pure ⟨rfl, (hFn _).mpr ⟨ρ1, ⟨hpp, htk.trans tk2, R2⟩⟩⟩
end
section
open PySem PySem.W PyProof.Rows PySem.Calls

inductive CO (k : Nat) (sc : Scope) (fv : List (Str × Nat)) (loc : Locs) (x : Str) (iter2 : Expr) (x2 : Str) (elt : Expr) (t : Nat) (K : List AC → Prop) : List AV → Locs → List AC → Locs → List AC → Prop
  | nil {lc cs} : K cs → CO k sc fv loc x iter2 x2 elt t K [] lc cs lc cs
  | cons {v vs lc cs X cs1 lc1 cs2 lc' cs'} : K cs → CEv k sc fv loc (setL x v lc) cs iter2 (.str X) cs1 → CI k sc fv loc x2 elt t (fun _ => True) (signs X) (setL x v lc) cs1 lc1 cs2 →
      CO k sc fv loc x iter2 x2 elt t K vs lc1 cs2 lc' cs' → CO k sc fv loc x iter2 x2 elt t K (v :: vs) lc cs lc' cs'

theorem codeAny_compStart_list1 {prog : Program} {w : World} {A : Around} {R : Result → Shared → Prop} {s : Shared} {elt g1 target iter ifs scope pos it acc env}
    (h0 : codeAny (model prog w) A (.compLoop (.ListComp elt [g1, ⟨target, iter, ifs, 0⟩] scope pos) 1 it acc env) R s)
    (h : wpAny (model prog w) A (pyIter it) (fun it' s' => codeAny (model prog w) A (.compLoop (.ListComp elt [g1, ⟨target, iter, ifs, 0⟩] scope pos) 1 it' acc env) R s')
      (notedBy (model prog w) A env fun x s' => R (.error x) s') s) :
    codeAny (model prog w) A (.compStart (.ListComp elt [g1, ⟨target, iter, ifs, 0⟩] scope pos) 1 it acc env) R s := by
  refine codeAny_of_tree ?_
  show wpAny _ _ ((compStart (.ListComp elt [g1, ⟨target, iter, ifs, 0⟩] scope pos) 1 it acc env).onRaise (fun x => do noteFrame x env; standAt theWindowsPlace)) _ _ s
  refine wpAny_notedAt ?_
  unfold compStart
  show wpAny _ _ (ask >>= _) _ _ s
  refine wpAny_bind (wpAny_askSetting (wpAny_ite ?_))
  split
  · first
      | exact wpAny_bind (wpAny_pure (wpAny_pure (And.intro rfl h0)))
      | exact wpAny_pure (And.intro rfl h0)
  · first
      | exact wpAny_bind (wpAny_rule (wpAny_bind (wpAny_standAt (wpAny_bind (wpAny_mono h (fun it' s' h' => wpAny_pure (And.intro rfl h')) fun _ _ x => x)))))
      | (refine wpAny_bind (wpAny_rule ?_); show wpAny _ _ (standAt iter.pos >>= _) _ _ s; exact wpAny_bind (wpAny_standAt (wpAny_bind (wpAny_mono h (fun it' s' h' => wpAny_pure (And.intro rfl h')) fun _ _ x => x))))

theorem co_core {w : World} {c : Cx w} {k : Nat} {sc : Scope} {fv : List (Str × Nat)} {sco : Scope} {loc : Locs} (O : c.OK k sco) {cenv : Env} {C : Addr} {ρ0 : List (List Addr)} (H : CE c ρ0 cenv C sc fv) {elt iter iter2 : Expr} {scope : Scope} {pos px px2 : Pos} {x x2 : Str} {I a t : Nat} {r : List Addr}
    (hx : sc.names.lookup x = some .local) (hx2 : sc.names.lookup x2 = some .local) (hs2 : ∀ env v, foldedSetIterable iter2 env v = pure v) (hacc : ρ0[t]? = some (a :: r)) {items : List AV} {K : List AC → Prop} {P : Nat → Obj → Prop} (T : Itr (w := w) c.A ρ0 I items K P) {lc lc' : Locs} {cs cs' : List AC} (h : CO k sc fv loc x iter2 x2 elt t K items lc cs lc' cs')
    {ρ : List (List Addr)} {s : Shared} {o : Obj} (hp : ρ0 <+: ρ) (hP : P 0 o) (R : Rep ((c.plus C lc).ice I o) ρ loc cs s) :
    codeAny (MD w) c.A (.compLoop (.ListComp elt [⟨.Name x px, iter, [], 0⟩, ⟨.Name x2 px2, iter2, [], 0⟩] scope pos) 0 (.ref I) (.ref a) cenv) (fun r s' => r = .ok .next ∧ ∃ ρ', Post (c.plus C lc') ρ s loc cs' s' ρ') s := by
  refine hideG fun Gq hGq => ?_
  obtain ⟨Fn, hFn⟩ : ∃ Fn : Shared → Prop, ∀ s', Fn s' ↔ ∃ ρ', Post (c.plus C lc') ρ s loc cs' s' ρ' := ⟨_, fun _ => Iff.rfl⟩
  obtain ⟨Iv, hIv⟩ : ∃ Iv : Nat → Shared → Prop, ∀ n s1, Iv n s1 ↔ ∃ ρ1 lc1 cs1 o1 i, n + i = items.length ∧ P i o1 ∧ CO k sc fv loc x iter2 x2 elt t K (items.drop i) lc1 cs1 lc' cs' ∧ ρ <+: ρ1 ∧ TK s.heap s1.heap ∧ Rep ((c.plus C lc1).ice I o1) ρ1 loc cs1 s1 := ⟨_, fun _ _ => Iff.rfl⟩
  refine hGq ?_
  clear hGq Gq
  refine codeAny_mono (R := fun r s' => r = .ok .next ∧ Fn s') ?_ (fun r s' h => ⟨h.1, (hFn s').mp h.2⟩)
  refine codeAny_loop rfl Iv ?_ items.length ((hIv _ _).mpr ⟨ρ, lc, cs, o, 0, by simp, hP, by simpa using h, List.prefix_refl _, TK.refl _, R⟩)
  intro n s1 hI0
  refine hideG fun Gq hGq => ?_
  obtain ⟨ρ1, lc1, cs1, o1, i, hn, hPi, F, hpp, htk, R1⟩ := (hIv n s1).mp hI0
  refine hGq ?_
  clear hGq Gq
  show wpAny _ _ ((compTurn (.ListComp elt [⟨.Name x px, iter, [], 0⟩, ⟨.Name x2 px2, iter2, [], 0⟩] scope pos) 0 (.ref I) (.ref a) cenv).onRaise (fun x => do noteFrame x cenv; theTreesLotGoes x)) _ _ s1
  refine wpAny_noted ?_
  rw [compTurn_list0]
  have hat := R1.frz (I, o1) (.head _)
  refine wpAny_bind (wpAny_standAt (wpAny_bind ?_))
  by_cases hi : i < items.length
  · rw [List.drop_eq_getElem_cons hi] at F
    cases F with
    | @cons _ _ _ _ X cs2 lc2 cs3 _ _ hK B HI F =>
      refine T.nxt i _ ((c.plus C lc1).ice I o1) loc cs1 ρ1 s1 o1 _ _ (List.getElem?_eq_getElem hi) hPi hK (hp.trans hpp) R1 hat fun v' o' h' tk V P' hI hx' => ?_
      refine hideG fun Gq hGq => ?_
      obtain ⟨R2, tk2⟩ := R1.reice (tk := tk) hx' hI (T.nt _ _ hPi)
      have R2' : Rep ((c.ice I o').plus C lc1) ρ1 loc cs1 { s1 with heap := h', toks := tk } := R2
      obtain ⟨m, nn, q⟩ := R2'.frs (C, lc1) (.head _)
      refine hGq ?_
      clear hGq Gq
      refine wpAny_bind (wpAny_of_eq (show letOwnedTupleGo (.Name x px) (.ref I) v' = pure () from rfl) ?_)
      refine wpAny_bind (wpAny_assign_Name (wpAny_storeName_local (H.loc _ hx) (by rw [H.locals]; exact nn) (fun h'' hn' hsb => ?_) (by rw [H.kind]; rfl)))
      rw [H.locals] at hn' hsb
      obtain ⟨tk3, R3⟩ := R2'.setPlus (tk := tk + 1) nn q hn' hsb (V.mono (List.prefix_refl _) tk2)
      refine wpAny_bind (wpAny_mono (B w (c.ice I o') C cenv ρ0 ρ1 _ sco (O.ice I o') (H.ice I o') (hp.trans hpp) R3) (fun y s3 hy => ?_) fun _ _ x => x.elim)
      refine hideG fun Gq hGq => ?_
      obtain ⟨ρ3, P3, t3, rfl⟩ := hy
      refine hGq ?_
      clear hGq Gq
      refine wpAny_bind (wpAny_standAt (wpAny_bind (wpAny_of_eq (hs2 _ _) (wpAny_bind (wpAny_holding (wpAny_pyIter_strU ?_))))))
      have hI2 : (s3.heap.push { cls := .type (strIterType X), data := .fields #[.str X t3, .int 0 0] }).get? s3.heap.objs.size = some { cls := .type (strIterType X), data := .fields #[.str X t3, .int 0 0] } := Heap.get?_push_size _ rfl
      have R4 := P3.rep.addIce (s' := { s3 with heap := s3.heap.push { cls := .type (strIterType X), data := .fields #[.str X t3, .int 0 0] } }) hI2 (Nat.le_refl _) (fun b o e => Heap.get?_push_of_some _ e) (fun _ _ e => e) P3.rep.stat.bare rfl
      have tk4 : TK s3.heap (s3.heap.push { cls := .type (strIterType X), data := .fields #[.str X t3, .int 0 0] }) := TK.of_keeps fun b o e => Heap.get?_push_of_some _ e
      have T2 := itr_str (w := w) (A := c.A) O.hd ρ0 s3.heap.objs.size X t3
      have loop : codeAny (MD w) c.A (.compLoop (.ListComp elt [⟨.Name x px, iter, [], 0⟩, ⟨.Name x2 px2, iter2, [], 0⟩] scope pos) 1 (.ref s3.heap.objs.size) (.ref a) cenv) (fun r s' => r = .ok .next ∧ ∃ ρ', Post ((c.ice I o').plus C lc2) ρ3 { s3 with heap := s3.heap.push { cls := .type (strIterType X), data := .fields #[.str X t3, .int 0 0] } } loc cs3 s' ρ') { s3 with heap := s3.heap.push { cls := .type (strIterType X), data := .fields #[.str X t3, .int 0 0] } } :=
        ci_core (c := c.ice I o') (O.ice I o') (H.ice I o') (fun it acc env => compTurn_list2 elt (.Name x2 px2) iter2 _ scope pos it acc env) hx2 hacc T2 HI ((hp.trans hpp).trans P3.pre) ⟨rfl, rfl⟩ R4
      refine wpAny_bind (wpAny_runOwn (codeAny_mono (codeAny_compStart_list1 loop (T2.self 0 _ _ _ _ ⟨rfl, rfl⟩ hI2 loop)) fun r5 s5 h5 => ?_))
      obtain ⟨rfl, ρ5, P5⟩ := h5
      exact wpAny_pure ⟨rfl, n - 1, by lia, (hIv _ _).mpr ⟨ρ5, _, _, o', i + 1, by lia, P', F, (hpp.trans P3.pre).trans P5.pre, ((((htk.trans tk2).trans tk3).trans P3.tk).trans tk4).trans P5.tk, P5.rep⟩⟩
  · have hi' : i = items.length := by lia
    subst hi'
    rw [List.drop_length] at F
    cases F with
    | nil hK =>
      refine T.fin ((c.plus C lc').ice I o1) loc cs' ρ1 s1 o1 _ _ hPi hK (hp.trans hpp) R1 hat fun h' tk hx' => ?_
      obtain ⟨R2, tk2⟩ := R1.thaw (tk := tk) hx' (T.nt _ _ hPi)
      exact wpAny_pure ⟨rfl, (hFn _).mpr ⟨ρ1, ⟨hpp, htk.trans tk2, R2⟩⟩⟩
end
section
open PySem PySem.W PyProof.Rows PySem.Calls

theorem lookup_relabel_ne {env : Env} {k : NameKind} (hk : k ≠ .free) : ∀ {names : List (Str × NameKind)} {x : Str}, names.lookup x = some k →
    (names.map fun (n, k) => if (k == NameKind.free && env.scope.kind == .function && env.kindOf n == some .cell) then (n, NameKind.cell) else (n, k)).lookup x = some k
  | [], _, h => by simp at h
  | (n, k') :: r, x, h => by
    have ih := @lookup_relabel_ne env k hk r x
    show List.lookup x ((if (k' == NameKind.free && env.scope.kind == .function && env.kindOf n == some .cell) = true then (n, NameKind.cell) else (n, k')) :: _) = _
    cases hx : x == n with
    | true =>
      simp only [List.lookup_cons, hx] at h
      cases h
      have : (k == NameKind.free) = false := by simpa using hk
      simp [List.lookup_cons, hx, this]
    | false =>
      simp only [List.lookup_cons, hx] at h
      by_cases hc : (k' == NameKind.free && env.scope.kind == .function && env.kindOf n == some .cell) = true
      · rw [if_pos hc]; simp only [List.lookup_cons, hx]; exact ih h
      · rw [if_neg hc]; simp only [List.lookup_cons, hx]; exact ih h
theorem lookup_relabel_free {env : Env} (he : env.scope.kind = .function) : ∀ {names : List (Str × NameKind)} {x : Str}, names.lookup x = some .free → env.kindOf x = some .cell →
    (names.map fun (n, k) => if (k == NameKind.free && env.scope.kind == .function && env.kindOf n == some .cell) then (n, NameKind.cell) else (n, k)).lookup x = some .cell
  | [], _, h, _ => by simp at h
  | (n, k') :: r, x, h, hx0 => by
    have ih := @lookup_relabel_free env he r x
    show List.lookup x ((if (k' == NameKind.free && env.scope.kind == .function && env.kindOf n == some .cell) = true then (n, NameKind.cell) else (n, k')) :: _) = _
    cases hx : x == n with
    | true =>
      simp only [List.lookup_cons, hx] at h
      cases h
      have e : x = n := by simpa using hx
      subst e
      rw [if_pos (by rw [he, hx0]; decide)]
      simp
    | false =>
      simp only [List.lookup_cons, hx] at h
      by_cases hc : (k' == NameKind.free && env.scope.kind == .function && env.kindOf n == some .cell) = true
      · rw [if_pos hc]; simp only [List.lookup_cons, hx]; exact ih h hx0
      · rw [if_neg hc]; simp only [List.lookup_cons, hx]; exact ih h hx0

noncomputable def IterOK {w : World} (c : Cx w) (ρ : List (List Addr)) (s : Shared) (loc : Locs) (cs1 : List AC) (e : Expr) (scope : Scope) (fv : List (Str × Nat)) (cl : List (Str × Addr)) (ac0 : AC) (cs' : List AC) (it : Value) (s2 : Shared) : Prop :=
  ∃ I o ρ1, it = .ref I ∧ ρ <+: ρ1 ∧ TK s.heap s2.heap ∧ Rep (c.ice I o) ρ1 loc cs1 s2 ∧
    (∀ (s : Shared) (Q : Value → Shared → Prop) (E : Value → Shared → Prop), s.heap.get? I = some o → Q (.ref I) s → wpAny (MD w) c.A (pyIter (.ref I)) Q E s) ∧
    (∀ x id, fv.lookup x = some id → scope.names.lookup x = some .free ∧ c.env.kindOf x = some .cell ∧ ∃ b a r o, cl.lookup x = some b ∧ ρ1[id]? = some (a :: r) ∧ (b, o) ∈ c.fz ∧ o.data = .cell (some (.ref a))) ∧
    (∀ a cenv C s4, CE c (ρ1 ++ [[a]]) cenv C scope fv → Rep ((c.plus C []).ice I o) (ρ1 ++ [[a]]) loc (cs1 ++ [ac0]) s4 →
      codeAny (MD w) c.A (.compLoop e 0 (.ref I) (.ref a) cenv) (fun r s' => r = .ok .next ∧ ∃ lc' ρ', Post (c.plus C lc') (ρ1 ++ [[a]]) s4 loc cs' s' ρ') s4)

theorem comp_block {w : World} {c : Cx w} {k : Nat} {sco : Scope} (O : c.OK k sco) {elt target iter : Expr} {ifs : List Expr} {rest : List Comprehension} {scope : Scope} {pos : Pos} {loc : Locs} {cs1 cs' : List AC} {fv : List (Str × Nat)} {cl : List (Str × Addr)} {ac0 : AC} {ρ : List (List Addr)} {s s2 : Shared} {it : Value}
    (h : IterOK c ρ s loc cs1 (.ListComp elt (⟨target, iter, ifs, 0⟩ :: rest) scope pos) scope fv cl ac0 cs' it s2) (hac0 : ac0 = .strL [] ∨ ac0 = .intL []) (hcell : ∀ y ∈ scope.names, y.2 ≠ .cell) (hkind : scope.kind = .function)
    {RR : Value → Addr → Result → Shared → Prop} {E : Value → Shared → Prop}
    (hRR : ∀ a C s' ρ' lc', Post (c.plus C lc') ρ s loc cs' s' ρ' → ρ'[cs1.length]? = some [a] → RR (.ref a) C (.ok .next) s') :
    wpAny (MD w) c.A (newList []) (fun acc s₃ => wpAny (MD w) c.A (newFunctionEnv scope c.env.globals cl [] c.env.qual none .none (some c.env)) (fun cenv s₄ =>
      codeAny (MD w) c.A (.compStart (.ListComp elt (⟨target, iter, ifs, 0⟩ :: rest) scope pos) 0 it acc { cenv with scope := relabel scope c.env }) (RR acc cenv.locals) s₄) E s₃) E s2 := by
  refine hideG fun Gq hGq => ?_
  obtain ⟨I, o, ρ1, rfl, hp, tk, R, self, hfv, loop⟩ := h
  refine hGq ?_
  clear hGq Gq
  refine wpAny_newObj_type (wpAny_newFunctionEnv hcell (by intro y hy; simp at hy) (fun h₁ hns₁ hsb₁ => ?_) hkind)
  dsimp only at hns₁ hsb₁ ⊢
  have P3 := Post.newObj (ac := ac0) R (tk := s2.toks) (o := { cls := .type "list", data := .seq ([] : List Value).toArray }) rfl (by
    rcases hac0 with rfl | rfl
    · exact ⟨_, [], rfl, ⟨_, Heap.get?_push_size _ rfl⟩, .nil⟩
    · exact ⟨_, [], rfl, ⟨_, Heap.get?_push_size _ rfl⟩, .nil⟩)
  generalize hH : s2.heap.push { cls := .type "list", dict := none, data := .seq ([] : List Value).toArray } = H2 at hns₁ hsb₁ P3 ⊢
  have hk1 : ∀ b o, H2.get? b = some o → h₁.get? b = some o := fun b o e => hsb₁.extBut b o (Nat.ne_of_lt (Heap.lt_size e)) (Heap.get?_push_of_some _ e)
  have R4 := P3.rep.addPlus (C := H2.objs.size) (tk := s2.toks + ([] : List (Str × Value)).length) hns₁ (Nat.le_refl _) hk1
  have hCE : CE c (ρ1 ++ [[s2.heap.objs.size]]) { newEnv scope H2.objs.size c.env.globals cl c.env.qual none .none (some c.env) builtinsNs with scope := relabel scope c.env } H2.objs.size scope fv := by
    refine ⟨rfl, O.glob, O.blt, hkind, fun x hx => lookup_relabel_ne (by simp) hx, fun x hx => lookup_relabel_ne (by simp) hx, fun x id hx => ?_⟩
    refine hideG fun Gq hGq => ?_
    obtain ⟨q1, q2, b, a, r, o, q3, q4, q5, q6⟩ := hfv x id hx
    refine hGq ?_
    clear hGq Gq
    exact ⟨lookup_relabel_free O.skind q1 q2, b, a, r, o, q3, prefix_get (List.prefix_append _ _) q4, q5, q6⟩
  have L := loop s2.heap.objs.size _ _ _ hCE R4
  have hI := R4.frz (I, o) (.head _)
  have L2 : codeAny (MD w) c.A (.compLoop (.ListComp elt (⟨target, iter, ifs, 0⟩ :: rest) scope pos) 0 (.ref I) (.ref s2.heap.objs.size) { newEnv scope H2.objs.size c.env.globals cl c.env.qual none .none (some c.env) builtinsNs with scope := relabel scope c.env })
      (RR (.ref s2.heap.objs.size) H2.objs.size) { s2 with heap := h₁, toks := s2.toks + ([] : List (Str × Value)).length } := codeAny_mono L fun r s' hr => by
    refine hideG fun Gq hGq => ?_
    obtain ⟨rfl, lc', ρ', P⟩ := hr
    refine hGq ?_
    clear hGq Gq
    refine hRR _ _ s' ρ' lc' ⟨(hp.trans (List.prefix_append _ _)).trans P.pre, ((tk.trans P3.tk).trans (TK.of_keeps hk1)).trans P.tk, P.rep⟩ ?_
    refine prefix_get P.pre ?_
    rw [List.getElem?_append_right (by rw [R.len]; exact Nat.le_refl _), R.len]
    simp
  exact codeAny_compStart_list L2 (self _ _ _ hI L2)

section
variable {w : World} {c : Cx w} {k : Nat} {sco : Scope} {elt target iter : Expr} {ifs : List Expr} {rest : List Comprehension} {scope : Scope} {pos : Pos} {loc : Locs} {cs1 cs' : List AC} {fv : List (Str × Nat)} {cl : List (Str × Addr)} {ac0 : AC} {ρ : List (List Addr)} {s : Shared}
theorem comp_eval (O : c.OK k sco) (h : wpAny (MD w) c.A (eval iter c.env) (fun x s1 => wpAny (MD w) c.A (pyIter x) (fun it s2 => IterOK c ρ s loc cs1 (.ListComp elt (⟨target, iter, ifs, 0⟩ :: rest) scope pos) scope fv cl ac0 cs' it s2) (fun _ _ => False) s1) (fun _ _ => False) s)
    (hs : ∀ x, foldedSetIterable iter c.env x = pure x) (hclos : closureFor scope c.env = pure cl) (hac0 : ac0 = .strL [] ∨ ac0 = .intL []) (hcell : ∀ y ∈ scope.names, y.2 ≠ .cell) (hkind : scope.kind = .function) (hnames : ∀ x ∈ scope.names, x.2 = .local → scope.names.lookup x.1 = some .local) :
    wpAny (MD w) c.A (eval (.ListComp elt (⟨target, iter, ifs, 0⟩ :: rest) scope pos) c.env) (fun v' s' => ∃ ρ', Post c ρ s loc cs' s' ρ' ∧ VRep ρ' s'.heap (.obj cs1.length) v') (fun _ _ => False) s := by
  rw [eval_ListComp]
  refine wpAny_comprehension_free (use := none) rfl hs hclos hkind hnames (wpAny_mono h (fun x s1 h1 => wpAny_mono h1 (fun it s2 h2 => comp_block O h2 hac0 hcell hkind (RR := fun acc C => compPost (MD w) c.A (fun _ _ => False) none (fun v' s' => ∃ ρ', Post c ρ s loc cs' s' ρ' ∧ VRep ρ' s'.heap (.obj cs1.length) v') acc C) ?_) fun _ _ x => x) fun _ _ x => x)
  intro a C s' ρ' lc' P hρ
  obtain ⟨m, n, _⟩ := P.rep.frs (C, lc') (.head _)
  exact ⟨m, n, fun h' hs => let ⟨tk, R⟩ := P.rep.dropPlus hs; ⟨ρ', ⟨P.pre, P.tk.trans tk, R⟩, a, [], hρ, rfl⟩⟩
theorem comp_assign (O : c.OK k sco) {y : Str} {py spos : Pos} (hsw : swapsWith (.ListComp elt (⟨target, iter, ifs, 0⟩ :: rest) scope pos) (some (.Name y py)) spos.line c.env = pure true) (hy : sco.names.lookup y = some .local)
    (h : wpAny (MD w) c.A (eval iter c.env) (fun x s1 => wpAny (MD w) c.A (pyIter x) (fun it s2 => IterOK c ρ s loc cs1 (.ListComp elt (⟨target, iter, ifs, 0⟩ :: rest) scope pos) scope fv cl ac0 cs' it s2) (fun _ _ => False) s1) (fun _ _ => False) s)
    (hs : ∀ x, foldedSetIterable iter c.env x = pure x) (hclos : closureFor scope c.env = pure cl) (hac0 : ac0 = .strL [] ∨ ac0 = .intL []) (hcell : ∀ y ∈ scope.names, y.2 ≠ .cell) (hkind : scope.kind = .function) (hnames : ∀ x ∈ scope.names, x.2 = .local → scope.names.lookup x.1 = some .local) :
    wpAny (MD w) c.A (exec (.Assign [.Name y py] (.ListComp elt (⟨target, iter, ifs, 0⟩ :: rest) scope pos) spos) c.env) (fun f s' => f = .next ∧ ∃ ρ', Post c ρ s (setL y (.obj cs1.length) loc) cs' s' ρ') (fun _ _ => False) s := by
  rw [exec_Assign_Name_used _ _ _ _ hsw]
  refine wpAny_bind (wpAny_standAt (wpAny_bind ?_))
  show wpAny _ c.A (do let _ ← comprehension (.ListComp elt (⟨target, iter, ifs, 0⟩ :: rest) scope pos) scope c.env _ (newList []) false (eval iter c.env) (some (assign (.Name y py) c.env))) _ _ s
  refine wpAny_bind (wpAny_mono (wpAny_comprehension_free (use := some (assign (.Name y py) c.env)) (Q := fun _ s' => ∃ ρ', Post c ρ s (setL y (.obj cs1.length) loc) cs' s' ρ') rfl hs hclos hkind hnames
    (wpAny_mono h (fun x s1 h1 => wpAny_mono h1 (fun it s2 h2 => comp_block O h2 hac0 hcell hkind (RR := fun acc C => compPost (MD w) c.A (fun _ _ => False) (some (assign (.Name y py) c.env)) (fun _ s' => ∃ ρ', Post c ρ s (setL y (.obj cs1.length) loc) cs' s' ρ') acc C) ?_) fun _ _ x => x) fun _ _ x => x)) (fun _ s' hq => wpAny_pure (wpAny_pure ⟨rfl, hq⟩)) fun _ _ x => x)
  intro a C s' ρ' lc' P hρ
  show wpAny _ c.A (assign (.Name y py) c.env (.ref a)) _ _ _
  obtain ⟨m, nn, q⟩ := P.rep.fr
  refine wpAny_assign_Name (wpAny_storeName_local (by rw [O.kindOf]; exact hy) nn (fun h2 hn2 hs2 => ?_) O.plainStore)
  have P2 := P.rep.setLoc (x := y) (v := .obj cs1.length) (v' := .ref a) (tk := s'.toks + 1) nn q hn2 hs2 ⟨a, [], hρ, rfl⟩
  obtain ⟨m', n', _⟩ := P2.rep.frs (C, lc') (.head _)
  exact ⟨m', n', fun h' hs => let ⟨tk, R⟩ := P2.rep.dropPlus hs; ⟨ρ', ⟨P.pre.trans P2.pre, (P.tk.trans P2.tk).trans tk, R⟩⟩⟩
end

theorem ev_compList {k : Nat} {sc : Scope} {loc : Locs} {cs cs1 cs' : List AC} {elt iter : Expr} {scope : Scope} {pos px : Pos} {x : Str} {id : Nat} {items : List AV} {ac ac0 : AC} {lc' : Locs} (hi : Ev k sc loc cs iter (.obj id) cs1) (hs : ∀ env x, foldedSetIterable iter env x = pure x)
    (hac : ∀ (P : Params) ρ s as, CellAt P ρ s ac as → ∃ a vs, as = [a] ∧ s.heap.IsList a (List.toArray vs) ∧ vs.length = items.length ∧ ∀ (i : Nat) v, items[i]? = some v → ∃ v', vs[i]? = some v' ∧ VRep ρ s.heap v v')
    (hfree : ∀ y ∈ scope.names, y.2 ≠ .free) (hac0 : ac0 = .strL [] ∨ ac0 = .intL []) (hcell : ∀ y ∈ scope.names, y.2 ≠ .cell) (hkind : scope.kind = .function) (hnames : ∀ x ∈ scope.names, x.2 = .local → scope.names.lookup x.1 = some .local) (hx : scope.names.lookup x = some .local)
    (hid : cs1[id]? = some ac) (h : CI k scope [] loc x elt cs1.length (fun cs => cs[id]? = some ac) items [] (cs1 ++ [ac0]) lc' cs') :
    Ev k sc loc cs (.ListComp elt [⟨.Name x px, iter, [], 0⟩] scope pos) (.obj cs1.length) cs' := by
  intro w c ρ s O R
  refine comp_eval (fv := []) (ac0 := ac0) O (wpAny_mono (hi w c ρ s O R) (fun v s1 hv => ?_) fun _ _ x => x) (hs _) (closureFor_none hfree) hac0 hcell hkind hnames
  refine hideG fun Gq hGq => ?_
  obtain ⟨ρ1, P1, a, r, ha, rfl⟩ := hv
  obtain ⟨a', vs, e, hl, _, _⟩ := hac _ _ _ _ (P1.rep.cells _ _ _ hid ha)
  refine hGq ?_
  clear hGq Gq
  cases e
  refine wpAny_pyIter_list hl ?_
  have hI : (s1.heap.push { cls := .type "list_iterator", data := .fields #[.ref a, .int 0 0] }).get? s1.heap.objs.size = some { cls := .type "list_iterator", data := .fields #[.ref a, .int 0 0] } := Heap.get?_push_size _ rfl
  have R2 := P1.rep.addIce (s' := { s1 with heap := s1.heap.push { cls := .type "list_iterator", data := .fields #[.ref a, .int 0 0] } }) hI (Nat.le_refl _) (fun b o e => Heap.get?_push_of_some _ e) (fun _ _ e => e) P1.rep.stat.bare rfl
  have tk0 : TK s1.heap (s1.heap.push { cls := .type "list_iterator", data := .fields #[.ref a, .int 0 0] }) := TK.of_keeps fun b o e => Heap.get?_push_of_some _ e
  refine ⟨_, _, ρ1, rfl, P1.pre, P1.tk.trans tk0, R2, fun s Q E hI q => (itr_list (w := w) (A := c.A) O.hd s1.heap.objs.size ha hac).self 0 _ _ _ _ ⟨rfl, rfl⟩ hI q, fun x id hx => by simp at hx, fun a2 cenv C s4 H R4 => ?_⟩
  have hacc : (ρ1 ++ [[a2]])[cs1.length]? = some (a2 :: []) := by
    rw [List.getElem?_append_right (by rw [P1.rep.len]; exact Nat.le_refl _), P1.rep.len]; simp
  refine codeAny_mono (ci_core O H (fun it acc env => compTurn_list1 elt (.Name x px) iter scope pos it acc env) hx hacc (itr_list (w := w) (A := c.A) O.hd s1.heap.objs.size (prefix_get (List.prefix_append _ _) ha) hac) h (List.prefix_refl _) ⟨rfl, rfl⟩ R4) fun r s' hr => ?_
  exact ⟨hr.1, lc', hr.2⟩
end
section
open PySem PySem.W PyProof.Rows PySem.Calls
noncomputable def compSc (e : Expr) : Scope := match e with
  | .ListComp _ _ s _ => s
  | _ => default
noncomputable def valOf (l : List Stmt) : Expr := match l with
  | .Assign _ v _ :: _ => v
  | _ => .Constant .none 0 default
noncomputable def eltOf (e : Expr) : Expr := match e with
  | .ListComp e _ _ _ => e
  | e => e
noncomputable def iter2Of (e : Expr) : Expr := match e with
  | .ListComp _ [_, g] _ _ => g.iter
  | e => e
noncomputable def cmpA : Expr := valOf (bodyA 272)
noncomputable def cmpB : Expr := valOf ((bodyA 272).drop 1)
noncomputable def pics (m : Str) : List Str := m.cps.toList.map shF
noncomputable def ownersF : Nat → List Str → List Int
  | _, [] => []
  | j, m :: ms => List.replicate m.cps.size (j : Int) ++ ownersF (j + 1) ms
section
variable {k : Nat} {loc : Locs}
theorem ciA (t : Nat) (cs0 : List AC) (ht : t = cs0.length) : ∀ (codes : List Nat) (acc : List Str) (lc : Locs), (∀ c ∈ codes, c < 256) → acc.length + codes.length ≤ 900 →
    ∃ lc', CI (k + 1) (compSc cmpA) [] loc (Str.ofString "sign") (eltOf cmpA) t (fun _ => True) (codes.map fun c => AV.str ⟨#[c]⟩) lc (cs0 ++ [.strL (acc.map some)]) lc' (cs0 ++ [.strL ((acc ++ codes.map shF).map some)])
  | [], acc, lc, h, hl => ⟨lc, by simpa using CI.nil (lc := lc) trivial⟩
  | c :: codes, acc, lc, h, hl => by
    simp only [List.length_cons] at hl
    obtain ⟨lc', F⟩ := ciA t cs0 ht codes (acc ++ [shF c]) (setL (Str.ofString "sign") (.str ⟨#[c]⟩) lc) (fun x hx => h x (List.mem_cons_of_mem _ hx)) (by simp; lia)
    refine ⟨lc', ?_⟩
    have hc : c < 256 := h c (.head _)
    have hget : (cs0 ++ [AC.strL (acc.map some)])[t]? = some (.strL (acc.map some)) := by rw [ht]; simp
    have ha := cl_lappS (k := k + 1) (x := shF c) hget (by simp; lia)
    have hset : (cs0 ++ [AC.strL (acc.map some)]).set t (.strL (acc.map some ++ [some (shF c)])) = cs0 ++ [.strL ((acc ++ [shF c]).map some)] := by
      rw [ht, List.set_append_right _ _ (Nat.le_refl _)]; simp
    rw [hset] at ha
    have e2 : acc ++ (c :: codes).map shF = acc ++ [shF c] ++ codes.map shF := by simp
    rw [e2]
    refine .cons trivial ?_ ha F
    refine cev_call (cev_stat rfl gl_law_shown rfl) (cevl_cons (cev_call (cev_stat rfl gl_ord rfl) (cevl_cons (cev_local rfl (by exact lk_eq) rfl) cevl_nil (fun _ => rfl)) (pcl_ord c).cl trivial (fun _ => rfl)) cevl_nil (fun _ => rfl)) (cl_shown c hc) cal239 (fun _ => rfl)
theorem coA (t mid : Nat) (cs0 : List AC) (ht : t = cs0.length) (msgs : List Str) (hm : cs0[mid]? = some (.strL (msgs.map some))) : ∀ (ms : List Str) (acc : List Str) (lc : Locs), (∀ m ∈ ms, ∀ c ∈ m.cps.toList, c < 256) → acc.length + (ms.flatMap pics).length ≤ 900 →
    ∃ lc', CO (k + 1) (compSc cmpA) [] loc (Str.ofString "message") (iter2Of cmpA) (Str.ofString "sign") (eltOf cmpA) t (fun cs => cs[mid]? = some (.strL (msgs.map some))) (ms.map fun m => AV.str m) lc (cs0 ++ [.strL (acc.map some)]) lc' (cs0 ++ [.strL ((acc ++ ms.flatMap pics).map some)])
  | [], acc, lc, h, hl => ⟨lc, by simpa using CO.nil (lc := lc) (get_append hm)⟩
  | m :: ms, acc, lc, h, hl => by
    have hp : (pics m).length = m.cps.toList.length := by simp [pics]
    rw [List.flatMap_cons, List.length_append, hp] at hl
    obtain ⟨lc1, F1⟩ := ciA (k := k) (loc := loc) t cs0 ht m.cps.toList acc (setL (Str.ofString "message") (.str m) lc) (h m (.head _)) (by lia)
    obtain ⟨lc', F⟩ := coA t mid cs0 ht msgs hm ms (acc ++ pics m) lc1 (fun x hx => h x (List.mem_cons_of_mem _ hx)) (by rw [List.length_append, hp]; lia)
    refine ⟨lc', ?_⟩
    rw [List.flatMap_cons, ← List.append_assoc]
    exact .cons (get_append hm) (cev_local rfl lk_eq rfl) F1 F
theorem ciB (t : Nat) (cs0 : List AC) (ht : t = cs0.length) (j : Int) : ∀ (codes : List Nat) (acc : List Int) (lc : Locs), lc.lookup (Str.ofString "k") = some (.int j) → acc.length + codes.length ≤ 900 →
    ∃ lc', CI (k + 1) (compSc cmpB) [(Str.ofString "messages", mid)] loc (Str.ofString "sign") (eltOf cmpB) t (fun _ => True) (codes.map fun c => AV.str ⟨#[c]⟩) lc (cs0 ++ [.intL acc]) lc' (cs0 ++ [.intL (acc ++ List.replicate codes.length j)])
  | [], acc, lc, h, hl => ⟨lc, by simpa using CI.nil (lc := lc) trivial⟩
  | c :: codes, acc, lc, h, hl => by
    simp only [List.length_cons] at hl
    have h1 : (setL (Str.ofString "sign") (.str ⟨#[c]⟩) lc).lookup (Str.ofString "k") = some (.int j) := lk_ne (by decide) h
    obtain ⟨lc', F⟩ := ciB t cs0 ht j codes (acc ++ [j]) (setL (Str.ofString "sign") (.str ⟨#[c]⟩) lc) h1 (by simp; lia)
    refine ⟨lc', ?_⟩
    have hget : (cs0 ++ [AC.intL acc])[t]? = some (.intL acc) := by rw [ht]; simp
    have ha := cl_lappI (k := k + 1) (x := j) hget (by lia)
    have hset : (cs0 ++ [AC.intL acc]).set t (.intL (acc ++ [j])) = cs0 ++ [.intL (acc ++ [j])] := by
      rw [ht, List.set_append_right _ _ (Nat.le_refl _)]; simp
    rw [hset] at ha
    have e2 : acc ++ List.replicate (c :: codes).length j = acc ++ [j] ++ List.replicate codes.length j := by
      rw [List.length_cons, List.replicate_succ]; simp
    rw [e2]
    exact .cons trivial (cev_local rfl h1 rfl) ha F
theorem coB (t mid : Nat) (cs0 : List AC) (ht : t = cs0.length) (msgs : List Str) (hm : cs0[mid]? = some (.strL (msgs.map some))) (hN : msgs.length ≤ 900) : ∀ (ms : List Str) (j : Nat) (acc : List Int) (lc : Locs), msgs.drop j = ms → j ≤ msgs.length → acc.length + (ownersF j ms).length ≤ 900 →
    ∃ lc', CO (k + 1) (compSc cmpB) [(Str.ofString "messages", mid)] loc (Str.ofString "k") (iter2Of cmpB) (Str.ofString "sign") (eltOf cmpB) t (fun _ => True) (rangeL j msgs.length) lc (cs0 ++ [.intL acc]) lc' (cs0 ++ [.intL (acc ++ ownersF j ms)])
  | [], j, acc, lc, h, hj, hl => by
    have hlen := congrArg List.length h
    rw [List.length_drop, List.length_nil] at hlen
    exact ⟨lc, by rw [rangeL_nil (by lia)]; simpa [ownersF] using CO.nil (lc := lc) trivial⟩
  | m :: ms, j, acc, lc, h, hj, hl => by
    have hlen := congrArg List.length h
    rw [List.length_drop, List.length_cons] at hlen
    have hmj : msgs[j]? = some m := by
      have := congrArg (fun l : List Str => l[0]?) h
      simpa using this
    rw [ownersF, List.length_append, List.length_replicate] at hl
    have hk : (setL (Str.ofString "k") (.int (j : Int)) lc).lookup (Str.ofString "k") = some (.int (j : Int)) := lk_eq
    obtain ⟨lc1, F1⟩ := ciB (k := k) (loc := loc) (mid := mid) t cs0 ht (j : Int) m.cps.toList acc (setL (Str.ofString "k") (.int (j : Int)) lc) hk (by have e9 : m.cps.toList.length = m.cps.size := Array.length_toList; lia)
    have hd : msgs.drop (j + 1) = ms := by rw [← List.drop_drop, h]; rfl
    obtain ⟨lc', F⟩ := coB t mid cs0 ht msgs hm hN ms (j + 1) (acc ++ List.replicate m.cps.size (j : Int)) lc1 hd (by lia) (by rw [List.length_append, List.length_replicate]; lia)
    refine ⟨lc', ?_⟩
    rw [rangeL_cons (by lia), ownersF, ← List.append_assoc]
    rw [show m.cps.toList.length = m.cps.size from Array.length_toList] at F1
    refine .cons trivial (cev_sub (a := .obj mid) (i := .int (j : Int)) (cev_free rfl rfl) (cev_local rfl hk rfl) (it_strL (o := some m) (get_append hm) (by lia) (by lia) (by rw [Int.toNat_natCast, List.getElem?_map, hmj]; rfl)) (fun _ _ => rfl)) F1 (by exact F)
end
end
section
open PySem PySem.W PyProof.Rows PySem.Calls
noncomputable def dueFd (P : Params) (L : Addr) : FuncData := { fdOf P 272 with closure := cellsFrom (L + 1) (scA 272).names [] }
noncomputable def Cx.due {w : World} (c : Cx w) (L : Addr) (loc : Locs) (ob : Obj) : Cx w where
  B := c.B
  A := c.A.deeper (callEnvC (fdOf w.params 272) L 272)
  fd := dueFd w.params L
  a := 272
  L := L
  fs := (c.L, loc) :: c.fs
  fz := (L + 1, ob) :: c.fz
  outer := c.env :: c.outer
theorem due_env {w : World} (c : Cx w) (L : Addr) (loc : Locs) (ob : Obj) : (c.due L loc ob).env = callEnvC (fdOf w.params 272) L 272 := rfl
theorem Cx.OK.due {w : World} {c : Cx w} {k : Nat} {sc : Scope} {L : Addr} {loc : Locs} {ob : Obj} (O : c.OK (k + 1) sc) : (c.due L loc ob).OK k (scA 272) where
  hsc := rfl
  kind := rfl
  glob := rfl
  blt := rfl
  hd := O.hd
  fr := by
    show (c.A.frames.map _) = _
    rw [O.fr]; rfl
  depth := by have := O.depth; show c.A.depth + 1 + k ≤ 800; lia
  units := by have := O.units; show c.A.units + 3 + 20 * k ≤ 9000; lia
  out := by
    intro e he
    rcases List.mem_cons.mp he with rfl | he
    · exact ⟨O.skind, (c.L, loc), .head _, rfl⟩
    · obtain ⟨h1, p, hp, h2⟩ := O.out e he
      exact ⟨h1, p, List.mem_cons_of_mem _ hp, h2⟩
theorem Post.leaveDue {w : World} {c : Cx w} {ρ loc s0 s loc' cs' s' ρ' L ob} (hk : TK s.heap s0.heap) (P : Post (c.due L loc ob) ρ s0 loc' cs' s' ρ') : Post c ρ s loc cs' s' ρ' := by
  refine Post.leave (a := 272) (L := L) hk (s0 := s0) (loc' := loc') ?_
  refine ⟨P.pre, P.tk, ?_⟩
  have R := P.rep
  have R1 : Rep ((c.callee 272 L loc).ice (L + 1) ob) ρ' loc' cs' s' := ⟨R.stat, R.fr, R.frs, R.frz, R.len, R.cells, R.apart, R.fresh⟩
  exact R1.melt


noncomputable def stA : Stmt := match bodyA 272 with
  | s :: _ => s
  | _ => .Pass default
noncomputable def stB : Stmt := match (bodyA 272).drop 1 with
  | s :: _ => s
  | _ => .Pass default
section
variable {w : World} {c0 : Cx w} {k : Nat} {L : Addr} {loc0 : Locs} {ob : Obj} {ρ : List (List Addr)} {loc : Locs} {cs : List AC} {s : Shared} {mid : Nat} {msgs : List Str} {a : Addr} {r : List Addr}
theorem due_name (O : (c0.due L loc0 ob).OK k (scA 272)) (hob : ob.data = .cell (some (.ref a))) (R : Rep (c0.due L loc0 ob) ρ loc cs s) {p : Pos} {Q : Value → Shared → Prop} {E : Value → Shared → Prop} (q : Q (.ref a) s) : wpAny (MD w) (c0.due L loc0 ob).A (eval (.Name (Str.ofString "messages") p) (c0.due L loc0 ob).env) Q E s :=
  wpAny_Name (wpAny_loadName_cell (c := L + 1) rfl rfl rfl ⟨ob, R.frz (L + 1, ob) (.head _), hob⟩ q) rfl
theorem due_len (O : (c0.due L loc0 ob).OK k (scA 272)) (hob : ob.data = .cell (some (.ref a))) (R : Rep (c0.due L loc0 ob) ρ loc cs s) (ha : ρ[mid]? = some (a :: r)) (hm : cs[mid]? = some (.strL (msgs.map some))) (hN : msgs.length ≤ 900) {p p2 p3 : Pos} :
    wpAny (MD w) (c0.due L loc0 ob).A (eval (.Call (.Name (Str.ofString "len") p) [.Name (Str.ofString "messages") p2] [] p3) (c0.due L loc0 ob).env) (fun v' s' => ∃ ρ', Post (c0.due L loc0 ob) ρ s loc cs s' ρ' ∧ VRep ρ' s'.heap (.int msgs.length) v') (fun _ _ => False) s := by
  have hf : Ev k (scA 272) loc cs (.Name (Str.ofString "len") p) (.stat (.builtin "len")) cs := ev_stat rfl gl_len rfl
  refine wpAny_Call_NameR (wpAny_mono (hf w _ ρ s O R) (fun f' s1 h => ?_) fun _ _ x => x.elim)
  obtain ⟨ρ1, P1, rfl⟩ := h
  refine callWith_builtin (backTo_plain _ _ _ rfl) (wpAny_callArgs ?_ rfl)
  refine wpAny_items_cons (due_name O hob P1.rep (wpAny_items_nil ?_)) rfl
  have hl : (msgs.map some).length ≤ 100000 := by simp; lia
  have e := cl_lenSL (k := k) hm hl w _ ρ1 loc s1 [.ref a] _ O P1.rep (.cons ⟨a, r, prefix_get P1.pre ha, rfl⟩ .nil)
  rw [List.length_map] at e
  exact wpAny_mono e (fun v' s2 ⟨ρ2, P2, q⟩ => ⟨ρ2, P1.trans P2, q⟩) fun _ _ x => x
theorem due_stA (O : (c0.due L loc0 ob).OK (k + 1) (scA 272)) (hob : ob.data = .cell (some (.ref a))) (R : Rep (c0.due L loc0 ob) ρ loc cs s) (ha : ρ[mid]? = some (a :: r)) (hm : cs[mid]? = some (.strL (msgs.map some))) (hc : ∀ m ∈ msgs, ∀ c ∈ m.cps.toList, c < 256)
    (h1 : (msgs.flatMap pics).length ≤ 900) :
    wpAny (MD w) (c0.due L loc0 ob).A (exec stA (c0.due L loc0 ob).env) (fun f s' => f = .next ∧ ∃ ρ', Post (c0.due L loc0 ob) ρ s (setL (Str.ofString "shown") (.obj cs.length) loc) (cs ++ [.strL ((msgs.flatMap pics).map some)]) s' ρ') (fun _ _ => False) s := by
  obtain ⟨lc', F⟩ := coA (k := k) (loc := loc) cs.length mid cs rfl msgs hm msgs [] [] hc (by simpa using h1)
  refine comp_assign (fv := []) (cl := []) (ac0 := .strL []) O (by rfl) (by rfl) ?_ (fun _ => rfl) (closureFor_none (by decide)) (.inl rfl) (by decide) (by rfl) (by decide)
  refine due_name O hob R ?_
  obtain ⟨a', vs, e, hl, _, _⟩ := ac_strL (msgs.map some) _ _ _ _ (R.cells _ _ _ hm ha)
  cases e
  refine wpAny_pyIter_list hl ?_
  have hI : (s.heap.push { cls := .type "list_iterator", data := .fields #[.ref a, .int 0 0] }).get? s.heap.objs.size = some { cls := .type "list_iterator", data := .fields #[.ref a, .int 0 0] } := Heap.get?_push_size _ rfl
  have R2 := R.addIce (s' := { s with heap := s.heap.push { cls := .type "list_iterator", data := .fields #[.ref a, .int 0 0] } }) hI (Nat.le_refl _) (fun b o e => Heap.get?_push_of_some _ e) (fun _ _ e => e) R.stat.bare rfl
  have tk0 : TK s.heap (s.heap.push { cls := .type "list_iterator", data := .fields #[.ref a, .int 0 0] }) := TK.of_keeps fun b o e => Heap.get?_push_of_some _ e
  have itm : (msgs.map some).map ofO = msgs.map fun m => AV.str m := by rw [List.map_map]; rfl
  have hac : ∀ (P : Params) ρ s as, CellAt P ρ s (.strL (msgs.map some)) as → ∃ a vs, as = [a] ∧ s.heap.IsList a (List.toArray vs) ∧ vs.length = (msgs.map fun m => AV.str m).length ∧ ∀ (i : Nat) v, (msgs.map fun m => AV.str m)[i]? = some v → ∃ v', vs[i]? = some v' ∧ VRep ρ s.heap v v' := by
    rw [← itm]; exact ac_strL _
  refine ⟨_, _, ρ, rfl, List.prefix_refl _, tk0, R2, fun s9 Q E hI q => (itr_list (w := w) (A := (c0.due L loc0 ob).A) O.hd s.heap.objs.size ha hac).self 0 _ _ _ _ ⟨rfl, rfl⟩ hI q, fun x id hx => by simp at hx, fun a2 cenv C s4 H R4 => ?_⟩
  have hacc : (ρ ++ [[a2]])[cs.length]? = some (a2 :: []) := by
    rw [List.getElem?_append_right (by rw [R.len]; exact Nat.le_refl _), R.len]; simp
  refine codeAny_mono (co_core O H (by rfl) (by rfl) (fun _ _ => rfl) hacc (itr_list (w := w) (A := (c0.due L loc0 ob).A) O.hd s.heap.objs.size (prefix_get (List.prefix_append _ _) ha) hac) F (List.prefix_refl _) ⟨rfl, rfl⟩ R4) fun r s' hr => ?_
  exact ⟨hr.1, lc', hr.2⟩
theorem due_stB (O : (c0.due L loc0 ob).OK (k + 1) (scA 272)) (hob : ob.data = .cell (some (.ref a))) (R : Rep (c0.due L loc0 ob) ρ loc cs s) (ha : ρ[mid]? = some (a :: r)) (hm : cs[mid]? = some (.strL (msgs.map some))) (hN : msgs.length ≤ 900)
    (h2 : (ownersF 0 msgs).length ≤ 900) :
    wpAny (MD w) (c0.due L loc0 ob).A (exec stB (c0.due L loc0 ob).env) (fun f s' => f = .next ∧ ∃ ρ', Post (c0.due L loc0 ob) ρ s (setL (Str.ofString "owner") (.obj cs.length) loc) (cs ++ [.intL (ownersF 0 msgs)]) s' ρ') (fun _ _ => False) s := by
  obtain ⟨lc', F⟩ := coB (k := k) (loc := loc) cs.length mid cs rfl msgs hm hN msgs 0 [] [] rfl (Nat.zero_le _) (by simpa using h2)
  refine comp_assign (fv := [(Str.ofString "messages", mid)]) (cl := [(Str.ofString "messages", L + 1)]) (ac0 := .intL []) O (by rfl) (by rfl) ?_ (fun _ => rfl) (by rfl) (.inr rfl) (by decide) (by rfl) (by decide)
  have hf : ∀ p, Ev (k + 1) (scA 272) loc cs (.Name (Str.ofString "range") p) (.stat (.type "range")) cs := fun p => ev_stat rfl glT_range rfl
  refine wpAny_Call_NameR (wpAny_mono (hf _ w _ ρ s O R) (fun f' s1 h => ?_) fun _ _ x => x.elim)
  obtain ⟨ρ1, P1, rfl⟩ := h
  refine PySem.callWith_type (backTo_plain _ _ _ rfl) (wpAny_callArgs ?_ rfl)
  refine wpAny_items_cons (wpAny_mono (due_len O hob P1.rep (prefix_get P1.pre ha) hm hN) (fun v s2 hv => wpAny_items_nil ?_) fun _ _ x => x.elim) rfl
  obtain ⟨ρ2, P2, t, rfl⟩ := hv
  refine call_range_1 ?_
  have R3 := P2.rep.heap (h' := s2.heap.push { cls := .type "range", data := .fields #[.int 0 s2.toks, .int (msgs.length : Int) t, .int 1 (s2.toks + 1)] }) (tk := s2.toks + 1 + 1) fun b o e => Heap.get?_push_of_some _ e
  have P3 := (P1.trans P2).trans ⟨List.prefix_refl _, TK.of_keeps (fun b o e => Heap.get?_push_of_some _ e), R3⟩
  refine wpAny_pyIter_range (IsRange.new ..) (small_one (by lia) (by lia) (by lia) (by lia)) ?_
  generalize hs3 : (s2.heap.push { cls := .type "range", data := .fields #[.int 0 s2.toks, .int (msgs.length : Int) t, .int 1 (s2.toks + 1)] }) = h3 at P3 R3 ⊢
  have hI : (h3.push { cls := .type "range_iterator", data := .fields #[rawInt 0, rawInt (Builtin.Range.rangeSize 0 (msgs.length : Int) 1), rawInt 1] }).get? h3.objs.size = some { cls := .type "range_iterator", data := .fields #[rawInt 0, rawInt (Builtin.Range.rangeSize 0 (msgs.length : Int) 1), rawInt 1] } := Heap.get?_push_size _ rfl
  have R4 := P3.rep.addIce (s' := { s2 with heap := h3.push { cls := .type "range_iterator", data := .fields #[rawInt 0, rawInt (Builtin.Range.rangeSize 0 (msgs.length : Int) 1), rawInt 1] }, toks := s2.toks + 1 + 1 }) hI (Nat.le_refl _) (fun b o e => Heap.get?_push_of_some _ e) (fun _ _ e => e) P3.rep.stat.bare rfl
  have tk4 : TK h3 (h3.push { cls := .type "range_iterator", data := .fields #[rawInt 0, rawInt (Builtin.Range.rangeSize 0 (msgs.length : Int) 1), rawInt 1] }) := TK.of_keeps fun b o e => Heap.get?_push_of_some _ e
  have hP0 : PRng 0 (msgs.length : Int) 0 { cls := .type "range_iterator", data := .fields #[rawInt 0, rawInt (Builtin.Range.rangeSize 0 (msgs.length : Int) 1), rawInt 1] } := by
    unfold PRng
    rw [rangeSize_one]; simp
  have T := itr_range (w := w) (A := (c0.due L loc0 ob).A) O.hd
  refine ⟨_, _, ρ2, rfl, P3.pre, P3.tk.trans tk4, R4, fun s9 Q E hI q => (T ρ2 h3.objs.size 0 (msgs.length : Int)).self 0 _ _ _ _ hP0 hI q, fun x id hx => ?_, fun a2 cenv C s4 H R5 => ?_⟩
  · simp only [List.lookup_cons, List.lookup_nil] at hx
    split at hx
    · rename_i heq
      have e : x = Str.ofString "messages" := by simpa using heq
      cases hx
      subst e
      exact ⟨rfl, rfl, L + 1, a, r, ob, rfl, prefix_get P3.pre ha, .head _, hob⟩
    · simp at hx
  · have hacc : (ρ2 ++ [[a2]])[cs.length]? = some (a2 :: []) := by
      rw [List.getElem?_append_right (by rw [P2.rep.len]; exact Nat.le_refl _), P2.rep.len]; simp
    refine codeAny_mono (co_core O H (by rfl) (by rfl) (fun _ _ => rfl) hacc (T _ h3.objs.size 0 (msgs.length : Int)) F (List.prefix_refl _) hP0 R5) fun r s' hr => ?_
    exact ⟨hr.1, lc', hr.2⟩
theorem due_body {f : AF} {loc' : Locs} {cs' : List AC} (O : (c0.due L loc0 ob).OK (k + 1) (scA 272)) (hob : ob.data = .cell (some (.ref a))) (R : Rep (c0.due L loc0 ob) ρ loc cs s) (ha : ρ[mid]? = some (a :: r)) (hm : cs[mid]? = some (.strL (msgs.map some))) (hN : msgs.length ≤ 900) (hc : ∀ m ∈ msgs, ∀ c ∈ m.cps.toList, c < 256)
    (h1 : (msgs.flatMap pics).length ≤ 900) (h2 : (ownersF 0 msgs).length ≤ 900)
    (h : Exs (k + 1) (scA 272) (setL (Str.ofString "owner") (.obj (cs.length + 1)) (setL (Str.ofString "shown") (.obj cs.length) loc))
      (cs ++ [.strL ((msgs.flatMap pics).map some)] ++ [.intL (ownersF 0 msgs)]) ((bodyA 272).drop 2) f loc' cs') :
    wpAny (MD w) (c0.due L loc0 ob).A (execs (bodyA 272) (c0.due L loc0 ob).env) (fun f' s' => ∃ ρ', Post (c0.due L loc0 ob) ρ s loc' cs' s' ρ' ∧ FlRep ρ' s'.heap f f') (fun _ _ => False) s := by
  have hA := due_stA O hob R ha hm hc h1
  have hB := fun ρ3 s3 (P3 : Post (c0.due L loc0 ob) ρ s (setL (Str.ofString "shown") (.obj cs.length) loc) (cs ++ [.strL ((msgs.flatMap pics).map some)]) s3 ρ3) => due_stB O hob P3.rep (prefix_get P3.pre ha) (get_append hm) hN h2
  clear hob
  have e : bodyA 272 = stA :: stB :: (bodyA 272).drop 2 := rfl
  rw [e]
  generalize (bodyA 272).drop 2 = rest at h ⊢
  generalize stA = sA at hA ⊢
  generalize stB = sB at hB ⊢
  generalize c0.due L loc0 ob = c' at *
  refine wpAny_execs_cons (wpAny_mono hA (fun f1 s3 hq => ?_) fun _ _ x => x.elim)
  obtain ⟨rfl, ρ3, P3⟩ := hq
  refine wpAny_execs_cons (wpAny_mono (hB ρ3 s3 P3) (fun f1 s4 hq => ?_) fun _ _ x => x.elim)
  obtain ⟨rfl, ρ4, P4⟩ := hq
  have P4' := P3.trans P4
  rw [List.length_append] at P4'
  refine wpAny_mono (h w _ ρ4 s4 O P4'.rep) (fun f' s5 hq => ?_) fun _ _ x => x.elim
  obtain ⟨ρ5, P5, q⟩ := hq
  exact ⟨ρ5, P4'.trans P5, q⟩
end
theorem cl_dueEntry {k : Nat} {cs : List AC} {mid : Nat} {msgs : List Str} {hd wd : Int} {ld : Str} {f : AF} {loc' : Locs} {cs' : List AC} (hm : cs[mid]? = some (.strL (msgs.map some))) (hN : msgs.length ≤ 900) (hc : ∀ m ∈ msgs, ∀ c ∈ m.cps.toList, c < 256)
    (h1 : (msgs.flatMap pics).length ≤ 900) (h2 : (ownersF 0 msgs).length ≤ 900)
    (h : Exs (k + 1) (scA 272) (setL (Str.ofString "owner") (.obj (cs.length + 1)) (setL (Str.ofString "shown") (.obj cs.length) [(Str.ofString "head", .int hd), (Str.ofString "width", .int wd), (Str.ofString "lead", .str ld)]))
      (cs ++ [.strL ((msgs.flatMap pics).map some)] ++ [.intL (ownersF 0 msgs)]) ((bodyA 272).drop 2) f loc' cs') :
    Cl (k + 2) cs (.ref 272) [.obj mid, .int hd, .int wd, .str ld] f.val cs' := by
  intro w c ρ loc s vs scc O R V
  obtain ⟨v0, vs1, rfl, V0, V⟩ : ∃ v r, vs = v :: r ∧ VRep ρ s.heap (.obj mid) v ∧ All2 (VRep ρ s.heap) _ r := by cases V with | cons a b => exact ⟨_, _, rfl, a, b⟩
  obtain ⟨v1, vs2, rfl, V1, V⟩ : ∃ v r, vs1 = v :: r ∧ VRep ρ s.heap (.int hd) v ∧ All2 (VRep ρ s.heap) _ r := by cases V with | cons a b => exact ⟨_, _, rfl, a, b⟩
  obtain ⟨v2, vs3, rfl, V2, V⟩ : ∃ v r, vs2 = v :: r ∧ VRep ρ s.heap (.int wd) v ∧ All2 (VRep ρ s.heap) _ r := by cases V with | cons a b => exact ⟨_, _, rfl, a, b⟩
  obtain ⟨v3, vs4, rfl, V3, V⟩ : ∃ v r, vs3 = v :: r ∧ VRep ρ s.heap (.str ld) v ∧ All2 (VRep ρ s.heap) _ r := by cases V with | cons a b => exact ⟨_, _, rfl, a, b⟩
  cases V
  obtain ⟨a, r, ha, rfl⟩ := V0
  refine wpAny_call (codeAny_call_cells (fd := fdOf w.params 272) (o := ⟨_, _, .func (fdOf w.params 272), _⟩) (binds := [(Str.ofString "messages", .ref a), (Str.ofString "head", v1), (Str.ofString "width", v2), (Str.ofString "lead", v3)])
    (by have := O.depth; have e : recursionLimit = 1000 := rfl; lia) (R.stat.keep 272 _ (c.B.K _ _ rfl) (by decide)) rfl R.stat.lim
    ⟨_, _, _, _, rfl, R.stat.keep _ _ (c.B.K _ _ rfl) (by decide), rfl, rfl⟩ rfl ?_ rfl ?_ ?_ rfl rfl rfl)
  · kernel_rfl
  · intro x hx
    simp only [List.mem_cons, List.not_mem_nil, or_false] at hx
    rcases hx with rfl | rfl | rfl | rfl
    · exact .inr ⟨rfl, rfl⟩
    · exact .inl rfl
    · exact .inl rfl
    · exact .inl rfl
  · intro s1 x
    obtain ⟨h0, tk0, rfl⟩ := x.toInCall.same
    have R0 := R.enter (a := 272) (tk := tk0) (h0 := h0) x.toInCall.ns x.toInCall.keep (loc0 := [(Str.ofString "head", .int hd), (Str.ofString "width", .int wd), (Str.ofString "lead", .str ld)]) (by
      intro y v e
      simp only [List.lookup_cons, List.lookup_nil] at e
      split at e
      · rename_i heq
        have e1 : y = Str.ofString "head" := by simpa using heq
        cases e; subst e1
        exact ⟨v1, rfl, V1⟩
      · split at e
        · rename_i heq
          have e1 : y = Str.ofString "width" := by simpa using heq
          cases e; subst e1
          exact ⟨v2, rfl, V2⟩
        · split at e
          · rename_i heq
            have e1 : y = Str.ofString "lead" := by simpa using heq
            cases e; subst e1
            exact ⟨v3, rfl, V3⟩
          · simp at e)
    obtain ⟨oc, hoc, hdc⟩ := x.cell (Str.ofString "messages") (s.heap.objs.size + 1) rfl
    have hdc' : oc.data = .cell (some (.ref a)) := hdc
    have hlt : ∀ b ∈ c.L :: (c.own ++ ρ.flatten), b < s.heap.objs.size := R.owned
    have R1 := R0.addIceAt (I := s.heap.objs.size + 1) hoc (by
      intro hmem
      rcases List.mem_cons.mp hmem with e | hmem
      · exact absurd (show s.heap.objs.size + 1 = s.heap.objs.size from e) (by lia)
      · exact Nat.lt_irrefl _ (Nat.lt_trans (Nat.lt_succ_self _) (hlt _ hmem))) (R.stat.new (by lia))
    have R2 : Rep (c.due s.heap.objs.size loc oc) ρ [(Str.ofString "head", .int hd), (Str.ofString "width", .int wd), (Str.ofString "lead", .str ld)] cs { s with heap := h0, toks := tk0 } := ⟨R1.stat, R1.fr, R1.frs, R1.frz, R1.len, R1.cells, R1.apart, R1.fresh⟩
    have O2 : (c.due s.heap.objs.size loc oc).OK (k + 1) (scA 272) := O.due
    have tkk : TK s.heap h0 := TK.of_keeps x.toInCall.keep
    refine wpAny_mono (due_body (f := f) (loc' := loc') (cs' := cs') O2 hdc' R2 ha hm hN hc h1 h2 h) (fun f' s5 hq => ?_) fun _ _ x => x.elim
    obtain ⟨ρ5, P5, q⟩ := hq
    refine ⟨ρ5, P5.leaveDue tkk, ?_⟩
    cases f with
    | next => cases q; rfl
    | ret v => obtain ⟨v', rfl, q⟩ := q; exact q
theorem cal272 : Callee (.ref 272) := fun P => ⟨_, _, _, _, rfl, by decide⟩
end
section
open PySem PySem.W PyProof.Rows PySem.Calls
theorem tst_cut {k sc loc cs e b cs'} (n : Nat) (h : Tst k sc loc cs e b cs') (hn : cs.length ≤ n) (hc : ∀ ac ∈ cs'.take n, Closed n ac) : Tst k sc loc cs e b (cs'.take n) := by
  intro w c ρ s O R
  refine wpAny_mono (h w c ρ s O R) (fun v' s' hq => ?_) fun _ _ x => x
  obtain ⟨e, ρ', P⟩ := hq
  exact ⟨e, ρ'.take n, P.cut R n hn hc⟩
theorem Closed.mono {n m : Nat} {ac : AC} (h : Closed n ac) (hm : n ≤ m) : Closed m ac := by
  cases ac <;> simp only [Closed] at h ⊢ <;> lia
noncomputable def befF : List Str → Int → List Int
  | [], _ => []
  | x :: r, s => (s + x.length) :: befF r (s + x.length)
noncomputable def costF (ow bef : List Int) (i j : Nat) : Int := (bef[j]?).getD 0 - (bef[i]?).getD 0 + 3 * ((ow[j - 1]?).getD 0 - (ow[i]?).getD 0) + 2
noncomputable def farJ (ow bef : List Int) (room : Int) (i : Nat) : Nat → Nat → Nat → Nat
  | 0, _, f => f
  | m + 1, j, f => farJ ow bef room i m (j + 1) (if costF ow bef i j ≤ room then j else f)
noncomputable def farI (ow bef : List Int) (room : Int) (N : Nat) : Nat → Nat → Nat → Nat
  | 0, _, f => f
  | m + 1, i, f => farI ow bef room N m (i + 1) (farJ ow bef room i (N - f) (f + 1) f)
noncomputable def farF (ow bef : List Int) (room : Int) (N e : Nat) : Nat := farI ow bef room N (e + 1) 0 e
inductive Due (sh : List Str) (ow bef : List Int) (hd wd : Int) (ld : Str) : Nat → List Str → List Str → Prop
  | stop {e rows} : sh.length ≤ e → Due sh ow bef hd wd ld e rows rows
  | step {e rows far out} : e < sh.length → far = farF ow bef (wd - (if rows = [] then hd else ld.length)) sh.length e → e ≤ far → far ≤ sh.length →
      Due sh ow bef hd wd ld far (rows ++ [(if rows = [] then Str.ofString "" else ld) ++ rowF sh ow e far]) out → Due sh ow bef hd wd ld e rows out
theorem farJ_le (ow bef : List Int) (room : Int) (i N : Nat) : ∀ m j f, j + m ≤ N + 1 → f ≤ N → farJ ow bef room i m j f ≤ N
  | 0, _, f, _, h => h
  | m + 1, j, f, hj, h => by
    rw [farJ]
    apply farJ_le ow bef room i N m (j + 1) _ (by lia)
    split <;> lia
noncomputable def wDue : Expr × List Stmt := whOf ((bodyA 272).drop 6)
noncomputable def bBef : List Stmt := forOf ((bodyA 272).drop 3)
noncomputable def bI : List Stmt := forOf (wDue.2.drop 2)
noncomputable def bJ : List Stmt := forOf bI
section
variable {k : Nat} {cs : List AC}
theorem bef_loop {si bi : Nat} {sh : List Str} (hne : bi ≠ si) (h4 : ∀ x ∈ sh, x.length ≤ 10) : ∀ (r : List Str) (pre : List Int) (s : Int) (loc : Locs) (cs : List AC), (∀ x ∈ r, x ∈ sh) → loc.lookup (Str.ofString "before") = some (.obj bi) → cs[bi]? = some (.intL (pre ++ [s])) → cs[si]? = some (.strL (sh.map some)) → pre.length + r.length ≤ 900 →
    ∃ loc', Fo k (scA 272) (Str.ofString "picture") bBef (fun c => c[si]? = some (.strL (sh.map some))) (r.map fun x => AV.str x) loc cs loc' (cs.set bi (.intL (pre ++ [s] ++ befF r s))) ∧ (∀ y, y ≠ Str.ofString "picture" → loc'.lookup y = loc.lookup y)
  | [], pre, s, loc, cs, hm, hb, hc, hs, hl => by
    refine ⟨loc, ?_, fun _ _ => rfl⟩
    have e : pre ++ [s] ++ befF [] s = pre ++ [s] := by simp [befF]
    rw [e, set_same hc]
    exact .nil hs
  | x :: r, pre, s, loc, cs, hm, hb, hc, hs, hl => by
    simp only [List.length_cons] at hl
    have hx := h4 x (hm x (.head _))
    have hx' : x.length ≤ 100000 := by lia
    have l1 : (setL (Str.ofString "picture") (.str x) loc).lookup (Str.ofString "before") = some (.obj bi) := lk_ne (by decide) hb
    have l2 : (setL (Str.ofString "picture") (.str x) loc).lookup (Str.ofString "picture") = some (.str x) := lk_eq
    have hll : (pre ++ [s]).length ≤ 100000 := by simp; lia
    obtain ⟨loc', F, q⟩ := bef_loop hne h4 r (pre ++ [s]) (s + x.length) (setL (Str.ofString "picture") (.str x) loc) (cs.set bi (.intL (pre ++ [s] ++ [s + x.length]))) (fun y hy => hm y (List.mem_cons_of_mem _ hy)) l1 (get_set_self hc) (by rw [List.getElem?_set_ne hne]; exact hs) (by simp; lia)
    rw [List.set_set] at F
    refine ⟨loc', .cons hs ?_ (by rw [show pre ++ [s] ++ befF (x :: r) s = pre ++ [s] ++ [s + (x.length : Int)] ++ befF r (s + x.length) by simp [befF]]; exact F), fun y hy => (q y hy).trans (lk_ne hy rfl)⟩
    have hlast := it_intL_last (k := k) hc
    exact exs_cons (ex_expr (v := .none) (ev_method (by kl_some) (m_lappI hc) (evl_cons (v := .int (s + x.length)) (ev_bin (a := .int s) (b := .int x.length) (ev_sub (i := .int (-1)) (by kl_some) (by kl_some) hlast (fun _ _ => rfl)) (by kl_some) (bin_add _ _)) evl_nil (fun _ => rfl)) (cl_lappI hc hll) trivial (fun _ => rfl) (fun _ => rfl)) (fun _ => rfl)) exs_nil
structure LDu (loc : Locs) (si oi bi ri : Nat) (hd wd : Int) (ld : Str) : Prop where
  shown : loc.lookup (Str.ofString "shown") = some (.obj si)
  owner : loc.lookup (Str.ofString "owner") = some (.obj oi)
  before : loc.lookup (Str.ofString "before") = some (.obj bi)
  rows : loc.lookup (Str.ofString "rows") = some (.obj ri)
  head : loc.lookup (Str.ofString "head") = some (.int hd)
  width : loc.lookup (Str.ofString "width") = some (.int wd)
  lead : loc.lookup (Str.ofString "lead") = some (.str ld)
theorem LDu.set {loc si oi bi ri hd wd ld x v} (L : LDu loc si oi bi ri hd wd ld) (h : x ∈ [Str.ofString "end", Str.ofString "room", Str.ofString "far", Str.ofString "i", Str.ofString "j"]) : LDu (setL x v loc) si oi bi ri hd wd ld := by
  refine hideG fun Gq hGq => ?_
  obtain ⟨h1, h2, h3, h4, h5, h6, h7⟩ := L
  refine hGq ?_
  clear hGq Gq
  simp only [List.mem_cons, List.not_mem_nil, or_false] at h
  rcases h with rfl | rfl | rfl | rfl | rfl <;>
  exact ⟨lk_ne (by decide) h1, lk_ne (by decide) h2, lk_ne (by decide) h3, lk_ne (by decide) h4, lk_ne (by decide) h5, lk_ne (by decide) h6, lk_ne (by decide) h7⟩
structure LIn (loc : Locs) (si oi bi ri : Nat) (hd wd : Int) (ld : Str) (e : Nat) (rm : Int) (f : Nat) : Prop where
  du : LDu loc si oi bi ri hd wd ld
  end_ : loc.lookup (Str.ofString "end") = some (.int e)
  room : loc.lookup (Str.ofString "room") = some (.int rm)
  far : loc.lookup (Str.ofString "far") = some (.int f)
theorem LIn.seti {loc si oi bi ri hd wd ld e rm f x v} (L : LIn loc si oi bi ri hd wd ld e rm f) (h : x = Str.ofString "i" ∨ x = Str.ofString "j") : LIn (setL x v loc) si oi bi ri hd wd ld e rm f := by
  rcases h with rfl | rfl
  · exact ⟨L.du.set (by simp), lk_ne (by decide) L.end_, lk_ne (by decide) L.room, lk_ne (by decide) L.far⟩
  · exact ⟨L.du.set (by simp), lk_ne (by decide) L.end_, lk_ne (by decide) L.room, lk_ne (by decide) L.far⟩
theorem LIn.setf {loc si oi bi ri hd wd ld e rm f} {f' : Nat} (L : LIn loc si oi bi ri hd wd ld e rm f) : LIn (setL (Str.ofString "far") (.int f') loc) si oi bi ri hd wd ld e rm f' :=
  ⟨L.du.set (by simp), lk_ne (by decide) L.end_, lk_ne (by decide) L.room, lk_eq⟩
theorem dj_turn {loc : Locs} {si oi bi ri : Nat} {hd wd : Int} {ld : Str} {e : Nat} {rm : Int} {f i j N : Nat} {ow bef : List Int} (L : LIn loc si oi bi ri hd wd ld e rm f) (hi : loc.lookup (Str.ofString "i") = some (.int i)) (hj : loc.lookup (Str.ofString "j") = some (.int j))
    (hob : cs[oi]? = some (.intL ow)) (hbb : cs[bi]? = some (.intL bef)) (how : ow.length = N) (hbe : bef.length = N + 1) (hN : N ≤ 300) (hiN : i < N) (hj1 : 1 ≤ j) (hjN : j ≤ N) :
    ∃ loc', Exs k (scA 272) loc cs bJ .next loc' cs ∧ LIn loc' si oi bi ri hd wd ld e rm (if costF ow bef i j ≤ rm then j else f) ∧ loc'.lookup (Str.ofString "i") = some (.int i) := by
  refine hideG fun Gq hGq => ?_
  obtain ⟨yj, hyj⟩ : ∃ y, bef[j]? = some y := ⟨_, List.getElem?_eq_getElem (by lia)⟩
  obtain ⟨yi, hyi⟩ : ∃ y, bef[i]? = some y := ⟨_, List.getElem?_eq_getElem (by lia)⟩
  obtain ⟨oj, hoj⟩ : ∃ y, ow[j - 1]? = some y := ⟨_, List.getElem?_eq_getElem (by lia)⟩
  obtain ⟨oi', hoi⟩ : ∃ y, ow[i]? = some y := ⟨_, List.getElem?_eq_getElem (by lia)⟩
  refine hGq ?_
  clear hGq Gq
  have l1 := L.du.before
  have l2 := L.du.owner
  have l3 := L.room
  have l4 := L.far
  have b1 := it_intL (k := k) (i := ((j : Nat) : Int)) hbb (by lia) (by lia) (by rw [Int.toNat_natCast]; exact hyj)
  have b2 := it_intL (k := k) (i := ((i : Nat) : Int)) hbb (by lia) (by lia) (by rw [Int.toNat_natCast]; exact hyi)
  have b3 := it_intL (k := k) (i := ((j : Nat) : Int) - 1) hob (by lia) (by lia) (by rw [show (((j : Nat) : Int) - 1).toNat = j - 1 by lia]; exact hoj)
  have b4 := it_intL (k := k) (i := ((i : Nat) : Int)) hob (by lia) (by lia) (by rw [Int.toNat_natCast]; exact hoi)
  have ec : costF ow bef i j = yj - yi + 3 * (oj - oi') + 2 := by unfold costF; rw [hyj, hyi, hoj, hoi]; rfl
  have t : Tst k (scA 272) loc cs (match bJ with | .If t _ _ _ :: _ => t | _ => wRd.1) (decide (yj - yi + 3 * (oj - oi') + 2 ≤ rm)) cs := by
    refine tst_cmpc (a := .int (yj - yi + 3 * (oj - oi') + 2)) (b := .int rm) ?_ (by kl_some) (cmp_leI _ _).c rfl
    refine ev_bin (cs1 := cs) (a := .int (yj - yi + 3 * (oj - oi'))) (b := .int 2) ?_ (by kl_some) (bin_add _ _)
    refine ev_bin (cs1 := cs) (a := .int (yj - yi)) (b := .int (3 * (oj - oi'))) ?_ ?_ (bin_add _ _)
    · exact ev_bin (a := .int yj) (b := .int yi) (ev_sub (by kl_some) (by kl_some) b1 (fun _ _ => rfl)) (ev_sub (by kl_some) (by kl_some) b2 (fun _ _ => rfl)) (bin_sub _ _)
    · refine ev_bin (a := .int 3) (b := .int (oj - oi')) (by kl_some) ?_ (bin_mul _ _ (.of_left (by decide)))
      exact ev_bin (a := .int oj) (b := .int oi') (ev_sub (i := .int (((j : Nat) : Int) - 1)) (by kl_some) (by kl_some) b3 (fun _ _ => rfl)) (ev_sub (by kl_some) (by kl_some) b4 (fun _ _ => rfl)) (bin_sub _ _)
  rw [ec]
  by_cases hh : yj - yi + 3 * (oj - oi') + 2 ≤ rm
  · rw [if_pos hh]
    exact ⟨_, exs_cons (ex_ifT (tst_eq t (decide_eq_true hh)) (exs_cons (ex_assign (by kl_some) rfl (fun _ => rfl)) exs_nil)) exs_nil, L.setf, lk_ne (by decide) hi⟩
  · rw [if_neg hh]
    exact ⟨_, exs_cons (ex_ifF (tst_eq t (decide_eq_false hh)) exs_nil) exs_nil, L, hi⟩
theorem dj_loop {si oi bi ri : Nat} {hd wd : Int} {ld : Str} {e : Nat} {rm : Int} {i N : Nat} {ow bef : List Int} (hob : cs[oi]? = some (.intL ow)) (hbb : cs[bi]? = some (.intL bef)) (how : ow.length = N) (hbe : bef.length = N + 1) (hN : N ≤ 300) (hiN : i < N) :
    ∀ (m j f : Nat) (loc : Locs), j + m = N + 1 → 1 ≤ j → LIn loc si oi bi ri hd wd ld e rm f → loc.lookup (Str.ofString "i") = some (.int i) →
      ∃ loc', Fo k (scA 272) (Str.ofString "j") bJ (fun _ => True) (rangeL j ((N : Int) + 1)) loc cs loc' cs ∧ LIn loc' si oi bi ri hd wd ld e rm (farJ ow bef rm i m j f) ∧ loc'.lookup (Str.ofString "i") = some (.int i)
  | 0, j, f, loc, hm, hj, L, hi => ⟨loc, by rw [rangeL_nil (by lia)]; exact .nil trivial, L, hi⟩
  | m + 1, j, f, loc, hm, hj, L, hi => by
    refine hideG fun Gq hGq => ?_
    obtain ⟨loc1, E, L1, hi1⟩ := dj_turn (k := k) (j := j) (L.seti (x := Str.ofString "j") (v := .int j) (.inr rfl)) (lk_ne (by decide) hi) lk_eq hob hbb how hbe hN hiN hj (by lia)
    obtain ⟨loc', F, L', hi'⟩ := dj_loop hob hbb how hbe hN hiN m (j + 1) _ loc1 (by lia) (by lia) L1 hi1
    refine hGq ?_
    clear hGq Gq
    refine ⟨loc', ?_, L', hi'⟩
    rw [rangeL_cons (by lia)]
    exact .cons trivial E F
theorem di_loop {si oi bi ri : Nat} {hd wd : Int} {ld : Str} {e : Nat} {rm : Int} {N : Nat} {ow bef : List Int} {sh : List Str} (hsi : cs[si]? = some (.strL (sh.map some))) (hsh : sh.length = N) (hob : cs[oi]? = some (.intL ow)) (hbb : cs[bi]? = some (.intL bef)) (how : ow.length = N) (hbe : bef.length = N + 1) (hN : N ≤ 300) (heN : e < N) :
    ∀ (m i f : Nat) (loc : Locs), i + m = e + 1 → f ≤ N → LIn loc si oi bi ri hd wd ld e rm f →
      ∃ loc', Fo k (scA 272) (Str.ofString "i") bI (fun _ => True) (rangeL i ((e : Int) + 1)) loc cs loc' cs ∧ LIn loc' si oi bi ri hd wd ld e rm (farI ow bef rm N m i f)
  | 0, i, f, loc, hm, hf, L => ⟨loc, by rw [rangeL_nil (by lia)]; exact .nil trivial, L⟩
  | m + 1, i, f, loc, hm, hf, L => by
    have L0 := L.seti (x := Str.ofString "i") (v := .int i) (.inl rfl)
    refine hideG fun Gq hGq => ?_
    obtain ⟨loc1, E, L1, _⟩ := dj_loop (k := k) (i := i) hob hbb how hbe hN (by lia) (N - f) (f + 1) f _ (by lia) (by lia) L0 lk_eq
    obtain ⟨loc', F, L'⟩ := di_loop hsi hsh hob hbb how hbe hN heN m (i + 1) _ loc1 (by lia) (farJ_le ow bef rm i N _ _ _ (by lia) hf) L1
    refine hGq ?_
    clear hGq Gq
    refine ⟨loc', ?_, L'⟩
    rw [rangeL_cons (by lia)]
    have l1 := L0.far
    have l2 := L0.du.shown
    have hl : (sh.map some).length ≤ 100000 := by simp; lia
    have eN : (((sh.map some).length : Nat) : Int) = (N : Int) := by rw [List.length_map, hsh]
    have cln := cl_lenSL (k := k) hsi hl
    rw [eN] at cln
    have E' : Fo k (scA 272) (Str.ofString "j") bJ (fun _ => True) (rangeL ((f : Int) + 1) ((N : Int) + 1)) (setL (Str.ofString "i") (.int (i : Int)) loc) cs loc1 cs := E
    refine .cons trivial (exs_cons (ex_forRange2 (a := (f : Int) + 1) (b := (N : Int) + 1) (ev_stat rfl glT_range rfl) ?_ rfl E' (by lia) (by lia) (by lia) (by lia) (fun _ => rfl) (fun _ _ => rfl)) exs_nil) F
    exact evl_cons (v := .int ((f : Int) + 1)) (by kl_some) (evl_cons (v := .int ((N : Int) + 1)) (ev_bin (a := .int (N : Int)) (b := .int 1) (ev_call (ev_stat rfl gl_len rfl) (by kl_some) cln (by kl_room) (fun _ => rfl)) (by kl_some) (bin_add _ _)) evl_nil (fun _ => rfl)) (fun _ => rfl)
end
end
section
open PySem PySem.W PyProof.Rows PySem.Calls
theorem rowGo_len {sh : List Str} {ow : List Int} {b e : Nat} (h4 : ∀ x ∈ sh, x.length ≤ 10) : ∀ (m j : Nat) (row : Str), (rowGo sh ow b e m j row).length ≤ row.length + 13 * m
  | 0, j, row => by rw [rowGo]; omega
  | m + 1, j, row => by
    rw [rowGo]
    have h1 := rowGo_len (ow := ow) (b := b) (e := e) h4 m (j + 1) (rowStep sh ow b e j row)
    have h2 := rowStep_len (ow := ow) (b := b) (e := e) (j := j) (row := row) h4
    lia
section
variable {k : Nat} {cs0 : List AC} {si oi bi : Nat} {sh : List Str} {ow bef : List Int} {hd wd : Int} {ld : Str}
theorem due_empty {loc : Locs} {rows : List Str} (L : LDu loc si oi bi cs0.length hd wd ld) (hcl : ∀ ac ∈ cs0, Closed cs0.length ac) (hok : (rows.map some).all okO = true) {e : Expr} {p1 p2 p3 : Pos} (he : e = .Compare (.Name (Str.ofString "rows") p1) [.Eq] [.List [] p2] p3) :
    Tst k (scA 272) loc (cs0 ++ [.strL (rows.map some)]) e (rows.isEmpty) (cs0 ++ [.strL (rows.map some)]) := by
  subst he
  have hr : (cs0 ++ [AC.strL (rows.map some)])[cs0.length]? = some (.strL (rows.map some)) := by simp
  have hn : (cs0 ++ [AC.strL (rows.map some)] ++ [AC.strL []])[(cs0 ++ [AC.strL (rows.map some)]).length]? = some (.strL []) := by rw [List.getElem?_append_right (Nat.le_refl _)]; simp
  have t := tst_cmpc (op := .Eq) (p := p3) (a := .obj cs0.length) (b := .obj (cs0 ++ [AC.strL (rows.map some)]).length) (ev_local (k := k) (sc := scA 272) (loc := loc) (cs := cs0 ++ [AC.strL (rows.map some)]) (p := p1) (x := Str.ofString "rows") rfl L.rows rfl) (ev_listS (p := p2) (l := []) evl_nil (by decide)) (cmpc_eqSL (get_append hr) hn hok rfl) rfl
  rw [eqv_nil] at t
  have t2 := tst_cut (cs0 ++ [AC.strL (rows.map some)]).length t (Nat.le_refl _) (by
    rw [List.take_left]
    intro ac hac
    rcases List.mem_append.mp hac with h | h
    · exact (hcl ac h).mono (by simp)
    · rw [List.mem_singleton.mp h]; trivial)
  rw [List.take_left] at t2
  have e2 : (rows.map some).isEmpty = rows.isEmpty := by cases rows <;> rfl
  rw [e2] at t2
  exact t2
theorem due_turn {loc : Locs} {rows : List Str} {e far : Nat} (L : LDu loc si oi bi cs0.length hd wd ld) (hend : loc.lookup (Str.ofString "end") = some (.int e)) (hcl : ∀ ac ∈ cs0, Closed cs0.length ac) (hok : (rows.map some).all okO = true)
    (hsi : cs0[si]? = some (.strL (sh.map some))) (hob : cs0[oi]? = some (.intL ow)) (hbb : cs0[bi]? = some (.intL bef)) (how : ow.length = sh.length) (hbe : bef.length = sh.length + 1) (hN : sh.length ≤ 300) (h4 : ∀ x ∈ sh, x.length ≤ 10)
    (hld : ld.length ≤ 100) (hrl : rows.length ≤ 900) (heN : e < sh.length) (hfar : far = farF ow bef (wd - (if rows = [] then hd else ld.length)) sh.length e) (hef : e ≤ far) (hfN : far ≤ sh.length) :
    ∃ loc', Exs (k + 1) (scA 272) loc (cs0 ++ [.strL (rows.map some)]) wDue.2 .next loc' (cs0 ++ [.strL ((rows ++ [(if rows = [] then Str.ofString "" else ld) ++ rowF sh ow e far]).map some)]) ∧
      LDu loc' si oi bi cs0.length hd wd ld ∧ loc'.lookup (Str.ofString "end") = some (.int far) := by
  refine hideG fun Gq hGq => ?_
  obtain ⟨l1, l2, l3, l4, l5, l6, l7⟩ := L
  refine hGq ?_
  clear hGq Gq
  have L : LDu loc si oi bi cs0.length hd wd ld := ⟨l1, l2, l3, l4, l5, l6, l7⟩
  have hr : (cs0 ++ [AC.strL (rows.map some)])[cs0.length]? = some (.strL (rows.map some)) := by simp
  have x1 : Ex (k + 1) (scA 272) loc (cs0 ++ [.strL (rows.map some)]) (match wDue.2 with | a :: _ => a | _ => .Pass default) .next (setL (Str.ofString "room") (.int (wd - (if rows = [] then hd else ld.length))) loc) (cs0 ++ [.strL (rows.map some)]) := by
    refine ex_assign (v := .int (wd - (if rows = [] then hd else ld.length))) ?_ rfl (fun _ => rfl)
    have te := fun p1 p2 p3 => due_empty (k := k + 1) (rows := rows) (p1 := p1) (p2 := p2) (p3 := p3) L hcl hok rfl
    have hl7 : ld.length ≤ 100000 := by lia
    by_cases hrow : rows = []
    · rw [if_pos hrow]
      exact ev_bin (a := .int wd) (b := .int hd) (by kl_some) (ev_ifT (tst_eq (te _ _ _) (by rw [hrow]; rfl)) (by kl_some)) (bin_sub _ _)
    · rw [if_neg hrow]
      have : rows.isEmpty = false := by cases rows with
        | nil => exact absurd rfl hrow
        | cons a b => rfl
      exact ev_bin (a := .int wd) (b := .int ld.length) (by kl_some) (ev_ifF (tst_eq (te _ _ _) this) (by kl_some)) (bin_sub _ _)
  generalize hrm : wd - (if rows = [] then hd else (ld.length : Int)) = rm at x1 hfar
  have x2 : Ex (k + 1) (scA 272) (setL (Str.ofString "room") (.int rm) loc) (cs0 ++ [.strL (rows.map some)]) (match wDue.2.drop 1 with | a :: _ => a | _ => .Pass default) .next (setL (Str.ofString "far") (.int e) (setL (Str.ofString "room") (.int rm) loc)) (cs0 ++ [.strL (rows.map some)]) := by
    have h := (lk_ne (y := Str.ofString "room") (v := .int rm) (by decide) hend)
    exact ex_assign (by kl_some) rfl (fun _ => rfl)
  have LI : LIn (setL (Str.ofString "far") (.int e) (setL (Str.ofString "room") (.int rm) loc)) si oi bi cs0.length hd wd ld e rm e :=
    ⟨(L.set (by simp)).set (by simp), lk_ne (by decide) (lk_ne (by decide) hend), lk_ne (by decide) lk_eq, lk_eq⟩
  obtain ⟨loc3, F, L3⟩ := di_loop (k := k + 1) (get_append (x := .strL (rows.map some)) hsi) rfl (get_append (x := .strL (rows.map some)) hob) (get_append (x := .strL (rows.map some)) hbb) how hbe hN heN (e + 1) 0 e _ (by omega) (by omega) LI
  have ef : farI ow bef rm sh.length (e + 1) 0 e = far := hfar.symm
  rw [ef] at L3
  have x3 : Ex (k + 1) (scA 272) (setL (Str.ofString "far") (.int e) (setL (Str.ofString "room") (.int rm) loc)) (cs0 ++ [.strL (rows.map some)]) (match wDue.2.drop 2 with | a :: _ => a | _ => .Pass default) .next loc3 (cs0 ++ [.strL (rows.map some)]) := by
    have h := LI.end_
    refine ex_forRange1 (b := (e : Int) + 1) (ev_stat rfl glT_range rfl) (evl_cons (v := .int ((e : Int) + 1)) (by kl_some) evl_nil (fun _ => rfl)) rfl (by exact F) (by omega) (by omega) (fun _ => rfl) (fun _ _ => rfl)
  have hset : (cs0 ++ [AC.strL (rows.map some)]).set cs0.length (.strL (rows.map some ++ [some ((if rows = [] then Str.ofString "" else ld) ++ rowF sh ow e far)])) = cs0 ++ [.strL ((rows ++ [(if rows = [] then Str.ofString "" else ld) ++ rowF sh ow e far]).map some)] := by
    rw [List.set_append_right _ _ (Nat.le_refl _)]; simp
  have hll : (rows.map some).length ≤ 100000 := by simp; omega
  have hap := cl_lappS (k := k + 1) (x := (if rows = [] then Str.ofString "" else ld) ++ rowF sh ow e far) hr hll
  rw [hset] at hap
  have x4 : Ex (k + 1) (scA 272) loc3 (cs0 ++ [.strL (rows.map some)]) (match wDue.2.drop 3 with | a :: _ => a | _ => .Pass default) .next loc3 (cs0 ++ [.strL ((rows ++ [(if rows = [] then Str.ofString "" else ld) ++ rowF sh ow e far]).map some)]) := by
    refine hideG fun Gq hGq => ?_
    obtain ⟨m1, m2, m3, m4, m5, m6, m7⟩ := L3.du
    refine hGq ?_
    clear hGq Gq
    have m8 := L3.end_
    have m9 := L3.far
    have te := fun p1 p2 p3 => due_empty (k := k + 1) (rows := rows) (p1 := p1) (p2 := p2) (p3 := p3) L3.du hcl hok rfl
    have cr := cl_row (k := k) (b := e) (e := far) (get_append (x := .strL (rows.map some)) hsi) (get_append (x := .strL (rows.map some)) hob) how.symm hN hef hfN h4
    have hrow2 : Ev (k + 1) (scA 272) loc3 (cs0 ++ [.strL (rows.map some)]) (match wDue.2.drop 3 with | .Expr (.Call _ [.BinOp (.IfExp _ _ _ _) _ r _] _ _) _ :: _ => r | _ => wRd.1) (.str (rowF sh ow e far)) (cs0 ++ [.strL (rows.map some)]) := ev_call (ev_stat rfl gl_law_row rfl) (by kl_some) cr (by kl_room) (fun _ => rfl)
    have hlen := rowGo_len (ow := ow) (b := e) (e := far) h4 (far - e) e (Str.ofString "")
    have hlen2 : (rowF sh ow e far).length ≤ 3900 := by
      unfold rowF
      have : (Str.ofString "").length = 0 := rfl
      omega
    have arg : Ev (k + 1) (scA 272) loc3 (cs0 ++ [.strL (rows.map some)]) (match wDue.2.drop 3 with | .Expr (.Call _ [a] _ _) _ :: _ => a | _ => wRd.1) (.str ((if rows = [] then Str.ofString "" else ld) ++ rowF sh ow e far)) (cs0 ++ [.strL (rows.map some)]) := by
      by_cases hrow : rows = []
      · rw [if_pos hrow]
        exact ev_bin (a := .str (Str.ofString "")) (b := .str (rowF sh ow e far)) (ev_ifT (tst_eq (te _ _ _) (by rw [hrow]; rfl)) ev_str) hrow2 (bin_cat _ _ (by show 0 + _ ≤ _; omega))
      · rw [if_neg hrow]
        have : rows.isEmpty = false := by cases rows with
          | nil => exact absurd rfl hrow
          | cons a b => rfl
        exact ev_bin (a := .str ld) (b := .str (rowF sh ow e far)) (ev_ifF (tst_eq (te _ _ _) this) (by kl_some)) hrow2 (bin_cat _ _ (by omega))
    exact ex_expr (v := .none) (ev_method (by kl_some) (m_lappS hr) (evl_cons arg evl_nil (fun _ => rfl)) hap trivial (fun _ => rfl) (fun _ => rfl)) (fun _ => rfl)
  have h9 := L3.far
  exact ⟨_, exs_cons x1 (exs_cons x2 (exs_cons x3 (exs_cons x4 (exs_cons (ex_assign (by kl_some) rfl (fun _ => rfl)) exs_nil)))), L3.du.set (by simp), lk_eq⟩
theorem Due.pre {e rows out} (h : Due sh ow bef hd wd ld e rows out) : rows <+: out := by
  induction h with
  | stop _ => exact List.prefix_refl _
  | step _ _ _ _ _ ih => exact (List.prefix_append _ _).trans ih
theorem due_loop (hcl : ∀ ac ∈ cs0, Closed cs0.length ac)
    (hsi : cs0[si]? = some (.strL (sh.map some))) (hob : cs0[oi]? = some (.intL ow)) (hbb : cs0[bi]? = some (.intL bef)) (how : ow.length = sh.length) (hbe : bef.length = sh.length + 1) (hN : sh.length ≤ 300) (h4 : ∀ x ∈ sh, x.length ≤ 10)
    (hld : ld.length ≤ 100) {e : Nat} {rows out : List Str} (h : Due sh ow bef hd wd ld e rows out) (hok : (out.map some).all okO = true) (hrl : out.length ≤ 900) :
    ∀ loc, LDu loc si oi bi cs0.length hd wd ld → loc.lookup (Str.ofString "end") = some (.int e) →
      ∃ n loc', Wh (k + 1) (scA 272) wDue.1 wDue.2 n loc (cs0 ++ [.strL (rows.map some)]) loc' (cs0 ++ [.strL (out.map some)]) ∧ loc'.lookup (Str.ofString "rows") = some (.obj cs0.length) := by
  have tst : ∀ (loc : Locs) (rows : List Str) (e : Nat), LDu loc si oi bi cs0.length hd wd ld → loc.lookup (Str.ofString "end") = some (.int e) → Tst (k + 1) (scA 272) loc (cs0 ++ [.strL (rows.map some)]) wDue.1 (decide ((e : Int) < (sh.length : Int))) (cs0 ++ [.strL (rows.map some)]) := by
    intro loc rows e L hend
    have hl : (sh.map some).length ≤ 100000 := by simp; lia
    have cln := cl_lenSL (k := k + 1) (get_append (x := .strL (rows.map some)) hsi) hl
    rw [List.length_map] at cln
    have l1 := L.shown
    exact tst_cmpc (a := .int e) (b := .int sh.length) (by kl_some) (ev_call (by kl_some) (by kl_some) cln (by kl_room) (fun _ => rfl)) (cmp_ltI _ _).c rfl
  induction h with
  | stop hs =>
    intro loc L hend
    exact ⟨0, loc, .stop (tst_eq (tst loc _ _ L hend) (by simp; omega)), L.rows⟩
  | @step e rows far out hlt hfar hef hfN hD ih =>
    intro loc L hend
    have hpre := hD.pre
    have hpre0 : rows <+: out := (List.prefix_append _ _).trans hpre
    have hok0 : (rows.map some).all okO = true := by
      obtain ⟨t, rfl⟩ := hpre0
      rw [List.map_append, List.all_append, Bool.and_eq_true] at hok
      exact hok.1
    refine hideG fun Gq hGq => ?_
    obtain ⟨loc1, E, L1, hend1⟩ := due_turn (k := k) L hend hcl hok0 hsi hob hbb how hbe hN h4 hld (Nat.le_trans hpre0.length_le hrl) hlt hfar hef hfN
    obtain ⟨n, loc', W, q⟩ := ih hok hrl loc1 L1 hend1
    refine hGq ?_
    clear hGq Gq
    exact ⟨n + 1, loc', .turn (tst_eq (tst loc rows e L hend) (by simp; omega)) E W, q⟩
end
end
section
open PySem PySem.W PyProof.Rows PySem.Calls
theorem ownersF_len : ∀ (ms : List Str) (j : Nat), (ownersF j ms).length = (ms.flatMap pics).length
  | [], _ => rfl
  | m :: ms, j => by
    rw [ownersF, List.length_append, List.length_replicate, List.flatMap_cons, List.length_append, ownersF_len ms]
    simp [pics]
theorem befF_len : ∀ (sh : List Str) (s : Int), (befF sh s).length = sh.length
  | [], _ => rfl
  | x :: r, s => by rw [befF, List.length_cons, befF_len r, List.length_cons]
theorem shF_len4 : ∀ c : Fin 256, (shF c).length ≤ 10 := by decide +kernel
noncomputable def shL (msgs : List Str) : List Str := msgs.flatMap pics
theorem cl_due {k : Nat} {cs : List AC} {mid : Nat} {msgs : List Str} {hd wd : Int} {ld : Str} {out : List Str} (hm : cs[mid]? = some (.strL (msgs.map some))) (hN : msgs.length ≤ 900) (hc : ∀ m ∈ msgs, ∀ c ∈ m.cps.toList, c < 256)
    (h1 : (shL msgs).length ≤ 300) (hcl : ∀ ac ∈ cs, Closed cs.length ac) (hld : ld.length ≤ 100) (hok : (out.map some).all okO = true) (hrl : out.length ≤ 900) (h : Due (shL msgs) (ownersF 0 msgs) (0 :: befF (shL msgs) 0) hd wd ld 0 [] out) :
    Cl (k + 2) cs (.ref 272) [.obj mid, .int hd, .int wd, .str ld] (.obj (cs.length + 3)) (cs ++ [.strL ((shL msgs).map some), .intL (ownersF 0 msgs), .intL (0 :: befF (shL msgs) 0), .strL (out.map some)]) := by
  have h4 : ∀ x ∈ shL msgs, x.length ≤ 10 := by
    intro x hx
    obtain ⟨m, hm1, hx⟩ := List.mem_flatMap.mp hx
    obtain ⟨c, hc1, rfl⟩ := List.mem_map.mp hx
    exact shF_len4 ⟨c, hc m hm1 c hc1⟩
  have how : (ownersF 0 msgs).length = (shL msgs).length := ownersF_len msgs 0
  have hbe : (0 :: befF (shL msgs) 0).length = (shL msgs).length + 1 := by rw [List.length_cons, befF_len]
  obtain ⟨loc', hE⟩ : Bf (k + 1) (scA 272) (setL (Str.ofString "owner") (.obj (cs.length + 1)) (setL (Str.ofString "shown") (.obj cs.length) [(Str.ofString "head", .int hd), (Str.ofString "width", .int wd), (Str.ofString "lead", .str ld)]))
      (cs ++ [.strL ((shL msgs).map some)] ++ [.intL (ownersF 0 msgs)]) ((bodyA 272).drop 2) (.ret (.obj (cs.length + 3))) (cs ++ [.strL ((shL msgs).map some), .intL (ownersF 0 msgs), .intL (0 :: befF (shL msgs) 0), .strL (out.map some)]) := by
    generalize shL msgs = sh at *
    generalize ownersF 0 msgs = ow at *
    have hlen : (cs ++ [AC.strL (sh.map some)] ++ [AC.intL ow]).length = cs.length + 2 := by simp
    refine bf_cons (cs1 := cs ++ [.strL (sh.map some)] ++ [.intL ow] ++ [.intL [0]]) (ex_assign (v := .obj (cs ++ [AC.strL (sh.map some)] ++ [AC.intL ow]).length) (ev_listI (l := [0]) (by exact evl_cons (v := .int 0) ev_int evl_nil (fun _ => rfl)) (by decide)) rfl (fun _ => rfl)) ?_
    rw [hlen]
    have hsi : (cs ++ [AC.strL (sh.map some)] ++ [AC.intL ow] ++ [AC.intL [0]])[cs.length]? = some (.strL (sh.map some)) := by
      rw [List.append_assoc, List.append_assoc, List.getElem?_append_right (Nat.le_refl _)]; simp
    have hbi : (cs ++ [AC.strL (sh.map some)] ++ [AC.intL ow] ++ [AC.intL [0]])[cs.length + 2]? = some (.intL ([] ++ [0])) := by
      rw [List.getElem?_append_right (by simp)]; simp
    obtain ⟨loc2, F, q⟩ := bef_loop (k := k + 1) (si := cs.length) (bi := cs.length + 2) (by lia) h4 sh [] 0 (setL (Str.ofString "before") (.obj (cs.length + 2)) (setL (Str.ofString "owner") (.obj (cs.length + 1)) (setL (Str.ofString "shown") (.obj cs.length) [(Str.ofString "head", .int hd), (Str.ofString "width", .int wd), (Str.ofString "lead", .str ld)]))) _ (fun _ h => h) rfl hbi hsi (by simp; lia)
    have hset : (cs ++ [AC.strL (sh.map some)] ++ [AC.intL ow] ++ [AC.intL [0]]).set (cs.length + 2) (.intL ([] ++ [0] ++ befF sh 0)) = cs ++ [.strL (sh.map some), .intL ow, .intL (0 :: befF sh 0)] := by
      rw [List.set_append_right _ _ (by simp)]; simp
    rw [hset] at F
    have itm : (sh.map some).map ofO = sh.map fun m => AV.str m := by rw [List.map_map]; rfl
    refine bf_cons (loc1 := loc2) (cs1 := cs ++ [AC.strL (sh.map some), AC.intL ow, AC.intL (0 :: befF sh 0)]) (ex_forList (id := cs.length) (ac := .strL (sh.map some)) (items := sh.map fun m => AV.str m) (ev_local rfl rfl rfl) rfl (by rw [← itm]; exact ac_strL _) F (fun _ _ => rfl)) ?_
    have hlen3 : (cs ++ [AC.strL (sh.map some), .intL ow, .intL (0 :: befF sh 0)]).length = cs.length + 3 := by simp
    refine bf_cons (cs1 := cs ++ [AC.strL (sh.map some), AC.intL ow, AC.intL (0 :: befF sh 0)] ++ [AC.strL []]) (ex_assign (v := .obj (cs ++ [AC.strL (sh.map some), .intL ow, .intL (0 :: befF sh 0)]).length) (ev_listS (l := []) evl_nil (by decide)) rfl (fun _ => rfl)) ?_
    refine bf_cons (ex_assign (v := .int 0) (by exact ev_int) rfl (fun _ => rfl)) ?_
    have g : ∀ y v, y ≠ Str.ofString "picture" → y ≠ Str.ofString "rows" → y ≠ Str.ofString "end" → (setL (Str.ofString "before") (.obj (cs.length + 2)) (setL (Str.ofString "owner") (.obj (cs.length + 1)) (setL (Str.ofString "shown") (.obj cs.length) [(Str.ofString "head", AV.int hd), (Str.ofString "width", .int wd), (Str.ofString "lead", .str ld)]))).lookup y = some v →
        (setL (Str.ofString "end") (.int 0) (setL (Str.ofString "rows") (.obj (cs ++ [AC.strL (sh.map some), .intL ow, .intL (0 :: befF sh 0)]).length) loc2)).lookup y = some v := fun y v n1 n2 n3 h => lk_ne n3 (lk_ne n2 ((q y n1).trans h))
    have L : LDu (setL (Str.ofString "end") (.int 0) (setL (Str.ofString "rows") (.obj (cs ++ [AC.strL (sh.map some), .intL ow, .intL (0 :: befF sh 0)]).length) loc2)) cs.length (cs.length + 1) (cs.length + 2) (cs ++ [AC.strL (sh.map some), .intL ow, .intL (0 :: befF sh 0)]).length hd wd ld :=
      ⟨g _ _ (by decide) (by decide) (by decide) rfl, g _ _ (by decide) (by decide) (by decide) rfl, g _ _ (by decide) (by decide) (by decide) rfl, lk_ne (by decide) lk_eq, g _ _ (by decide) (by decide) (by decide) rfl, g _ _ (by decide) (by decide) (by decide) rfl, g _ _ (by decide) (by decide) (by decide) rfl⟩
    have hcl0 : ∀ ac ∈ cs ++ [AC.strL (sh.map some), .intL ow, .intL (0 :: befF sh 0)], Closed (cs ++ [AC.strL (sh.map some), .intL ow, .intL (0 :: befF sh 0)]).length ac := by
      intro ac hac
      rcases List.mem_append.mp hac with h | h
      · exact (hcl ac h).mono (by simp)
      · simp only [List.mem_cons, List.not_mem_nil, or_false] at h
        rcases h with rfl | rfl | rfl <;> trivial
    have c1 : (cs ++ [AC.strL (sh.map some), .intL ow, .intL (0 :: befF sh 0)])[cs.length]? = some (.strL (sh.map some)) := by rw [List.getElem?_append_right (Nat.le_refl _)]; simp
    have c2 : (cs ++ [AC.strL (sh.map some), .intL ow, .intL (0 :: befF sh 0)])[cs.length + 1]? = some (.intL ow) := by rw [List.getElem?_append_right (by lia)]; simp
    have c3 : (cs ++ [AC.strL (sh.map some), .intL ow, .intL (0 :: befF sh 0)])[cs.length + 2]? = some (.intL (0 :: befF sh 0)) := by rw [List.getElem?_append_right (by lia)]; simp
    obtain ⟨n, loc3, W, q3⟩ := due_loop (k := k) hcl0 c1 c2 c3 how hbe h1 h4 hld h hok hrl _ L lk_eq
    rw [hlen3] at q3
    have ec : cs ++ [AC.strL (sh.map some), .intL ow, .intL (0 :: befF sh 0)] ++ [.strL (out.map some)] = cs ++ [AC.strL (sh.map some), .intL ow, .intL (0 :: befF sh 0), .strL (out.map some)] := by simp
    rw [ec] at W
    exact bf_cons (ex_while W) (bf_ret (ev_local rfl q3 rfl))
  have h1' : (msgs.flatMap pics).length ≤ 300 := h1
  exact cl_dueEntry (f := .ret (.obj (cs.length + 3))) hm hN hc (by lia) (by rw [ownersF_len]; lia) hE
end
section
open PySem PySem.W PyProof.Rows PySem.Calls
section
variable {k : Nat} {sc : Scope} {loc : Locs} {cs : List AC}
theorem cl_sumI {i : Nat} {l : List Int} (hc : cs[i]? = some (.intL l)) : Cl k cs (.builtin "sum") [.obj i] (.int l.sum) cs := by
  intro w c ρ loc s vs sc O R V
  refine hideG fun Gq hGq => ?_
  obtain ⟨_, rfl, a, r, ha, rfl⟩ := V.one
  obtain ⟨vs, x, z, _⟩ := R.intL hc ha
  have hall : AllInts vs.toArray := z.allInts
  obtain ⟨xs, hxs⟩ := hall.items
  refine hGq ?_
  clear hGq Gq
  have hl : s.heap.IsList a (intItems xs) := hxs ▸ x.isList
  refine sum_intListG O.hd hl fun h' tk t' hk => ⟨ρ, Post.heap R hk, t', ?_⟩
  have e : (xs.toList.map (·.1)) = l := by
    rw [← nums_intItems, ← hxs]
    exact z.numsOf
  rw [preSum_eq, List.take_of_length_le (by simp), e]
theorem bin_pow9 : BinOK .Pow (.int 10) (.int 9) (.int 1000000000) := fun w A ρ s va vb Q E ⟨t, h⟩ ⟨u, h'⟩ q => by
  subst h h'
  refine PySem.AutoIntOps.pow_4 (by decide) (by decide) (by decide) (by decide) (by decide +kernel) ?_
  exact q _ _ ⟨_, rfl⟩
theorem ev_addL {l r : Expr} {p : Pos} {i j : Nat} {a b : List Int} {cs1 cs2} (h1 : Ev k sc loc cs l (.obj i) cs1) (h2 : Ev k sc loc cs1 r (.obj j) cs2) (ha : cs2[i]? = some (.intL a)) (hb : cs2[j]? = some (.intL b)) (hl : a.length + b.length ≤ 100000) :
    Ev k sc loc cs (.BinOp l .Add r p) (.obj cs2.length) (cs2 ++ [.intL (a ++ b)]) := by
  intro w c ρ s O R
  refine wpAny_BinOp (wpAny_mono (h1 w c ρ s O R) (fun va s1 h => ?_) fun _ _ x => x.elim)
  obtain ⟨ρ1, P1, V1⟩ := h
  refine wpAny_mono (h2 w c ρ1 s1 O P1.rep) (fun vb s2 h => ?_) fun _ _ x => x.elim
  refine hideG fun Gq hGq => ?_
  obtain ⟨ρ2, P2, V2⟩ := h
  obtain ⟨x, rx, ex, rfl⟩ := V1.mono P2.pre P2.tk
  obtain ⟨y, ry, ey, rfl⟩ := V2
  obtain ⟨vs, X, zx, _⟩ := P2.rep.intL ha ex
  obtain ⟨ws, Y, zy, _⟩ := P2.rep.intL hb ey
  obtain ⟨n, X⟩ := X
  obtain ⟨m, Y⟩ := Y
  refine hGq ?_
  clear hGq Gq
  have e : vs.toArray ++ ws.toArray = (vs ++ ws).toArray := by simp
  refine concat_meets ⟨_, X, rfl⟩ ⟨_, Y, rfl⟩ noFill_list_add seq_list_add PySem.F.slot_list_add PySem.F.entry_list_add (PySem.F.args_list_add_2 _ _) (list_addW x y vs.toArray ws.toArray n m _ _ _ _ (by
    have h1 := zx.length
    have h2 := zy.length
    rw [sizeLine_eq]; simp; lia)) ⟨X, Y, ?_⟩
  rw [e]
  exact ⟨_, (P1.trans P2).trans (Post.newObj P2.rep (tk := s2.toks) rfl ⟨_, vs ++ ws, rfl, ⟨_, Heap.get?_push_size _ rfl⟩, zx.append zy⟩), vrep_new P2.rep.len⟩
end
end
section
open PySem PySem.W PyProof.Rows PySem.Calls
noncomputable def trA (j : Nat) (l : List (Str × Str)) : List (Str × Str) := if j = 0 then l else l ++ [(Str.ofString " ", Str.ofString "")]
structure FBnd (j : Nat) (m : Str) (l : List (Str × Str)) (init : Int) : Prop where
  codes : ∀ c ∈ m.cps.toList, c < 256
  len : m.length ≤ 500
  ne : m.cps.toList ≠ []
  acc : ∀ p ∈ trA j l, p.1.length + p.2.length ≤ 1000
  num : (trA j l).length ≤ 99
  init : 0 ≤ init ∧ init ≤ 1000
inductive FeedRun (ml : Int) (ws : Str) (ls' : List Str) (l' : List (Str × Str)) (init' : Int) : Nat → List Str → List Str → List (Str × Str) → Int → Prop
  | done {j} : FeedRun ml ws ls' l' init' j [] ls' l' init'
  | fits {j m ms ls l init w} : FBnd j m l init → wordsF (ml - (init + accLen (trA j l))) (ml - ws.length) m.cps.toList = [some w] → w.length ≤ 900 → init + accLen (trA j l ++ [(Str.ofString "", w)]) ≤ ml →
      FeedRun ml ws ls' l' init' (j + 1) ms ls (trA j l ++ [(Str.ofString "", w)]) init → FeedRun ml ws ls' l' init' j (m :: ms) ls l init
  | brk {j m ms ls l init o mid last} : FBnd j m l init → wordsF (ml - (init + accLen (trA j l))) (ml - ws.length) m.cps.toList = o :: (mid ++ [last]).map some → (∀ w, o = some w → w.length ≤ 900 ∧ init + accLen (trA j l ++ [(Str.ofString "", w)]) ≤ ml) →
      ls.length + mid.length ≤ 900 → (init = 0 → Txt.isspace (accStr (nlAcc (feedAcc (trA j l) (Str.ofString "") o))) = false) → (∀ p ∈ feedAcc (trA j l) (Str.ofString "") o, PyData.strOk p.1 = true ∧ PyData.strOk p.2 = true) →
      (∀ m ∈ mid, m.length ≤ 900) → 0 < init + accLen (nlAcc (feedAcc (trA j l) (Str.ofString "") o)) →
      FeedRun ml ws ls' l' init' (j + 1) ms (ls ++ [accStr (nlAcc (feedAcc (trA j l) (Str.ofString "") o))] ++ mid.map fun m => ws ++ m) [(ws, last)] 0 → FeedRun ml ws ls' l' init' j (m :: ms) ls l init
noncomputable def cF (base : List AC) (ml : Int) (ws : Str) (ls : List Str) (l : List (Str × Str)) (init : Int) : List AC := base ++ [.strL (ls.map some), .acc l init, .fm ml ws base.length (base.length + 1)]
section
variable {base : List AC} {ml : Int} {ws : Str} {ls : List Str} {l : List (Str × Str)} {init : Int}
theorem cF_li : (cF base ml ws ls l init)[base.length]? = some (.strL (ls.map some)) := by unfold cF; rw [List.getElem?_append_right (Nat.le_refl _)]; simp
theorem cF_ai : (cF base ml ws ls l init)[base.length + 1]? = some (.acc l init) := by unfold cF; rw [List.getElem?_append_right (by omega)]; simp
theorem cF_f : (cF base ml ws ls l init)[base.length + 2]? = some (.fm ml ws base.length (base.length + 1)) := by unfold cF; rw [List.getElem?_append_right (by lia)]; simp
theorem cF_base {i : Nat} {ac : AC} (h : base[i]? = some ac) : (cF base ml ws ls l init)[i]? = some ac := by unfold cF; rw [List.getElem?_append_left (lt_of_get h)]; exact h
theorem cF_seta {l2 : List (Str × Str)} {i2 : Int} : (cF base ml ws ls l init).set (base.length + 1) (.acc l2 i2) = cF base ml ws ls l2 i2 := by
  unfold cF; rw [List.set_append_right _ _ (by omega), show base.length + 1 - base.length = 1 by lia]; rfl
theorem cF_setl {ls2 : List Str} {x : List (Option Str)} (h : x = ls2.map some) : (cF base ml ws ls l init).set base.length (.strL x) = cF base ml ws ls2 l init := by
  subst h; unfold cF; rw [List.set_append_right _ _ (Nat.le_refl _), Nat.sub_self]; rfl
theorem cF_len : (cF base ml ws ls l init).length = base.length + 3 := by simp [cF]
theorem cF_closed (h : ∀ ac ∈ base, Closed base.length ac) : ∀ ac ∈ cF base ml ws ls l init, Closed (cF base ml ws ls l init).length ac := by
  intro ac ha
  rw [cF_len]
  rcases List.mem_append.mp ha with ha | ha
  · exact (h ac ha).mono (by lia)
  · simp only [List.mem_cons, List.not_mem_nil, or_false] at ha
    rcases ha with rfl | rfl | rfl
    · trivial
    · trivial
    · exact ⟨by omega, by omega⟩
theorem cF_still (h : ∀ ac ∈ base, Still ac) : ∀ ac ∈ cF base ml ws ls l init, Still ac := by
  intro ac ha
  rcases List.mem_append.mp ha with ha | ha
  · exact h ac ha
  · simp only [List.mem_cons, List.not_mem_nil, or_false] at ha
    rcases ha with rfl | rfl | rfl <;> trivial
end
structure LFe (loc : Locs) (fi mi ci : Nat) : Prop where
  formatter : loc.lookup (Str.ofString "formatter") = some (.obj fi)
  messages : loc.lookup (Str.ofString "messages") = some (.obj mi)
  coder : loc.lookup (Str.ofString "coder") = some (.obj ci)
noncomputable def bFeed : List Stmt := forOf ((bodyA 284).drop 8)
section
variable {k : Nat} {base : List AC} {ml : Int} {ws : Str} {ls' : List Str} {l' : List (Str × Str)} {init' : Int} {mi ci : Nat} {msgs : List Str}
theorem words_at (hst : ∀ ac ∈ base, Still ac) (h5 : 5 ≤ ml - ws.length) {j : Nat} {m : Str} {ls : List Str} {l : List (Str × Str)} {init : Int} (B : FBnd j m l init) {out : List (Option Str)} (hw : wordsF (ml - (init + accLen (trA j l))) (ml - ws.length) m.cps.toList = out) :
    Cl (k + 8) (cF base ml ws ls (trA j l) init ++ [.gen (base.length + 2) false]) (.ref 246) [.str m, .obj (cF base ml ws ls (trA j l) init).length] (.obj ((cF base ml ws ls (trA j l) init).length + 1)) (Tl (cF base ml ws ls (trA j l) init) (base.length + 2) out) := by
  have hlen : (cF base ml ws ls (trA j l) init ++ [AC.gen (base.length + 2) false]).length = (cF base ml ws ls (trA j l) init).length + 1 := by simp
  have hg : (cF base ml ws ls (trA j l) init ++ [AC.gen (base.length + 2) false])[(cF base ml ws ls (trA j l) init).length]? = some (.gen (base.length + 2) false) := by rw [List.getElem?_append_right (Nat.le_refl _)]; simp
  have h := cl_words (k := k + 2) B.codes B.len B.ne h5 hg (get_append cF_f) (get_append cF_ai) B.acc (by have := B.num; lia) B.init (by
    intro i ac hi hne
    have hm := List.mem_of_getElem? hi
    rcases List.mem_append.mp hm with h | h
    · exact cF_still hst ac h
    · rw [List.mem_singleton] at h
      subst h
      have hlt := (List.getElem?_eq_some_iff.mp hi).1
      rw [hlen] at hlt
      by_cases hi2 : i < (cF base ml ws ls (trA j l) init).length
      · rw [List.getElem?_append_left hi2] at hi
        exact cF_still hst _ (List.mem_of_getElem? hi)
      · exact absurd (by lia) hne)
  rw [hlen, hw] at h
  have e : (cF base ml ws ls (trA j l) init ++ [AC.gen (base.length + 2) false]).set (cF base ml ws ls (trA j l) init).length (.gen (base.length + 2) true) ++ [AC.strL out] = Tl (cF base ml ws ls (trA j l) init) (base.length + 2) out := by
    unfold Tl
    rw [List.set_append_right _ _ (Nat.le_refl _)]; simp
  rw [e] at h
  exact h
theorem feed_turn (hmi : base[mi]? = some (.strL (msgs.map some))) {loc : Locs} (L : LFe loc (base.length + 2) mi ci) {j : Nat} (hk : loc.lookup (Str.ofString "k") = some (.int j)) {m : Str} (hm : msgs[j]? = some m) (hj : j ≤ 900) {ls : List Str} {l : List (Str × Str)} {init : Int} (hn : l.length ≤ 100) {cs' : List AC}
    (hfeed : Cl (k + 9) (cF base ml ws ls (trA j l) init) (.ref 85) [.obj (base.length + 2), .str (Str.ofString ""), .str m, .obj ci] .none cs') :
    Exs (k + 9) (scA 284) loc (cF base ml ws ls l init) bFeed .next loc cs' := by
  have l1 := L.formatter
  have l2 := L.messages
  have l3 := L.coder
  have x1 : Ex (k + 9) (scA 284) loc (cF base ml ws ls l init) (match bFeed with | a :: _ => a | _ => .Pass default) .next loc (cF base ml ws ls (trA j l) init) := by
    have t : Tst (k + 9) (scA 284) loc (cF base ml ws ls l init) (match bFeed with | .If t _ _ _ :: _ => t | _ => wRd.1) (decide ((j : Int) > 0)) (cF base ml ws ls l init) := tst_cmpc (a := .int j) (b := .int 0) (by kl_some) (by kl_some) (cmp_gtI _ _).c rfl
    by_cases h0 : j = 0
    · have e : trA j l = l := if_pos h0
      rw [e]
      exact ex_ifF (tst_eq t (by subst h0; rfl)) exs_nil
    · have e : trA j l = l ++ [(Str.ofString " ", Str.ofString "")] := if_neg h0
      have ht := cl_trans (k := k + 7) (ml := ml) (ws := ws) (cF_f (base := base) (ml := ml) (ws := ws) (ls := ls) (l := l) (init := init)) cF_ai (by omega)
      rw [cF_seta, ← e] at ht
      exact ex_ifT (tst_eq t (decide_eq_true (by omega))) (exs_cons (ex_expr (v := .none) (ev_method (by kl_some) (m_trans cF_f) evl_nil ht cal78 (fun _ => rfl) (fun _ => rfl)) (fun _ => rfl)) exs_nil)
  refine exs_cons x1 (exs_cons (ex_expr (v := .none) (ev_method (by kl_some) (m_feed cF_f) ?_ hfeed cal85 (fun _ => rfl) (fun _ => rfl)) (fun _ => rfl)) exs_nil)
  have hit := it_strL (k := k + 9) (o := some m) (i := ((j : Nat) : Int)) (cF_base (ml := ml) (ws := ws) (ls := ls) (l := trA j l) (init := init) hmi) (by omega) (by omega) (by rw [Int.toNat_natCast, List.getElem?_map, hm]; rfl)
  exact evl_cons (v := .str (Str.ofString "")) (by kl_some) (evl_cons (v := .str m) (ev_sub (by kl_some) (by kl_some) hit (fun _ _ => rfl)) (evl_cons (v := .obj ci) (by kl_some) evl_nil (fun _ => rfl)) (fun _ => rfl)) (fun _ => rfl)
theorem feed_loop (hmi : base[mi]? = some (.strL (msgs.map some))) (hci : base[ci]? = some .coder) (hst : ∀ ac ∈ base, Still ac) (hcl : ∀ ac ∈ base, Closed base.length ac) (h5 : 5 ≤ ml - ws.length) (hws : ws.length ≤ 100) (hN : msgs.length ≤ 900) {j : Nat} {ms ls : List Str} {l : List (Str × Str)} {init : Int}
    (h : FeedRun ml ws ls' l' init' j ms ls l init) : msgs.drop j = ms → j ≤ msgs.length → ∀ loc, LFe loc (base.length + 2) mi ci →
    ∃ loc', Fo (k + 9) (scA 284) (Str.ofString "k") bFeed (fun _ => True) (rangeL j msgs.length) loc (cF base ml ws ls l init) loc' (cF base ml ws ls' l' init') ∧ (∀ y, y ≠ Str.ofString "k" → loc'.lookup y = loc.lookup y) := by
  have facts : ∀ {j : Nat} {m : Str} {ms : List Str}, msgs.drop j = m :: ms → j < msgs.length ∧ msgs[j]? = some m ∧ msgs.drop (j + 1) = ms := by
    intro j m ms h
    have hlen := congrArg List.length h
    rw [List.length_drop, List.length_cons] at hlen
    refine ⟨by omega, ?_, by rw [← List.drop_drop, h]; rfl⟩
    have := congrArg (fun l : List Str => l[0]?) h
    simpa using this
  induction h with
  | @done j =>
    intro hd hj loc L
    have hlen := congrArg List.length hd
    rw [List.length_drop, List.length_nil] at hlen
    exact ⟨loc, by rw [rangeL_nil (by omega)]; exact .nil trivial, fun _ _ => rfl⟩
  | @fits j m ms ls l init w B hw hw9 hfit hF ih =>
    intro hd hj loc L
    obtain ⟨hlt, hm, hd'⟩ := facts hd
    have L1 : LFe (setL (Str.ofString "k") (.int (j : Int)) loc) (base.length + 2) mi ci := ⟨lk_ne (by decide) L.formatter, lk_ne (by decide) L.messages, lk_ne (by decide) L.coder⟩
    have hll : l.length ≤ 100 := by
      have := B.num
      unfold trA at this
      split at this
      · omega
      · rw [List.length_append] at this; simp at this; omega
    have c := cl_feed0 (k := k) cF_f cF_ai (cF_base hci) (cF_closed hcl) (by
      intro p hp
      rcases List.mem_append.mp hp with hp | hp
      · exact B.acc p hp
      · rw [List.mem_singleton.mp hp]; show 0 + w.length ≤ _; omega) (by have := B.num; omega) B.init hfit (words_at (k := k) (ls := ls) hst h5 B hw)
    rw [cF_seta] at c
    have E := feed_turn (k := k) (ml := ml) (ws := ws) hmi L1 (j := j) lk_eq hm (by omega) hll c
    obtain ⟨loc', F, q⟩ := ih hd' (by omega) _ L1
    refine ⟨loc', ?_, fun y hy => (q y hy).trans (lk_ne hy rfl)⟩
    rw [rangeL_cons (by omega)]
    exact .cons trivial E F
  | @brk j m ms ls l init o mid last B hw hw9 hln hs hok hmid hpos hF ih =>
    intro hd hj loc L
    obtain ⟨hlt, hm, hd'⟩ := facts hd
    have L1 : LFe (setL (Str.ofString "k") (.int (j : Int)) loc) (base.length + 2) mi ci := ⟨lk_ne (by decide) L.formatter, lk_ne (by decide) L.messages, lk_ne (by decide) L.coder⟩
    have hll : l.length ≤ 100 := by
      have := B.num
      unfold trA at this
      split at this
      · omega
      · rw [List.length_append] at this; simp at this; omega
    have c := cl_feed1 (k := k) o cF_f cF_li cF_ai (cF_base hci) (cF_closed hcl) (by
      intro p hp
      cases o with
      | none => exact B.acc p hp
      | some w =>
        rcases List.mem_append.mp hp with hp | hp
        · exact B.acc p hp
        · rw [List.mem_singleton.mp hp]; have := (hw9 w rfl).1; show 0 + w.length ≤ _; omega) B.num B.init (fun w hw => (hw9 w hw).2) (by rw [List.length_map]; exact hln) (fun h0 _ => hs h0) hok hws hmid (words_at (k := k) (ls := ls) hst h5 B hw)
    rw [if_pos hpos, cF_setl (ls2 := ls ++ [accStr (nlAcc (feedAcc (trA j l) (Str.ofString "") o))] ++ mid.map fun m => ws ++ m) (by simp), cF_seta] at c
    have E := feed_turn (k := k) (ml := ml) (ws := ws) hmi L1 (j := j) lk_eq hm (by omega) hll c
    obtain ⟨loc', F, q⟩ := ih hd' (by omega) _ L1
    refine ⟨loc', ?_, fun y hy => (q y hy).trans (lk_ne hy rfl)⟩
    rw [rangeL_cons (by omega)]
    exact .cons trivial E F
end
end
section
open PySem PySem.W PyProof.Rows PySem.Calls
noncomputable def ArgOK (o : Obj) (s : List Int) : Prop := ∃ d vs n sl, o = ⟨.type "list", d, .seq (List.toArray vs) n, sl⟩ ∧ IntsAre vs s
theorem ev_sliceF {k : Nat} {sc : Scope} {loc : Locs} {cs : List AC} {o : Obj} {value hiE : Expr} {p pos : Pos} {i : Nat} {l : List Int} {n : Nat} (ho : ArgOK o l) (h : Ev k sc loc cs value (.obj i) cs) (hh : Ev k sc loc cs hiE (.int n) cs) (hc : cs[i]? = some (.fix o)) (hl : l.length ≤ 100000)
    (hev : ∀ env, evalPart (some hiE) env = PySem.eval hiE env) (hnn : ∀ env, evalPart none env = pure .none) (ht : ∀ o r, letTemporaryGo value o r = pure ()) : Ev k sc loc cs (.Subscript value (.Slice none (some hiE) none p) pos) (.obj cs.length) (cs ++ [.intL (l.take n)]) := by
  refine ev_slice h hh hc (fun P ρ s as hca => ?_) (fun P ρ ρ' s as h _ => h) hev hnn ht
  refine hideG fun Gq hGq => ?_
  obtain ⟨a, rfl, x⟩ := hca
  obtain ⟨d, vs, m, sl, rfl, y⟩ := ho
  refine hGq ?_
  clear hGq Gq
  refine ⟨a, vs, rfl, ⟨_, x, rfl, m, rfl⟩, by rw [y.length]; exact hl, fun s' b hb => ⟨b, vs.take n, rfl, ?_, intsAre_take y n⟩⟩
  rw [pick_upto] at hb; exact hb
noncomputable def totF (s : List Int) : Int := ((s.take 60).sum).fmod 1000000000
noncomputable def nineF (s : List Int) : List Int := (s.take 9).map fun n => n.fmod 1000000000
noncomputable def numF (s : List Int) : List Int := nineF s ++ [3 * totF s + 1, 96]
noncomputable def hdF (t : Int) : Int := (([0, 4, 9] : List Int)[(t.fmod 3).toNat]?).getD 0
noncomputable def ldF (t : Int) : Str := (([Str.ofString " ", Str.ofString "\t", Str.ofString "   "] : List Str)[((t.fdiv 3).fmod 3).toNat]?).getD (Str.ofString "")
noncomputable def wdF (t : Int) : Int := 8 + (t.fdiv 9).fmod 12
noncomputable def baseF (o : Obj) (s : List Int) : List AC := [.fix o, .intL (s.take 60), .intL (s.take 9), .intL (nineF s), .intL [3 * totF s + 1, 96], .intL (numF s), msAC ((numF s).foldl msgStep ([], Str.ofString "")), .strL ((msgsF (numF s)).map some), .coder]
noncomputable def locF (s : List Int) : Locs := setL (Str.ofString "formatter") (.obj 11) (setL (Str.ofString "coder") (.obj 8) (setL (Str.ofString "width") (.int (wdF (totF s))) (setL (Str.ofString "lead") (.str (ldF (totF s))) (setL (Str.ofString "head") (.int (hdF (totF s)))
  (setL (Str.ofString "messages") (.obj 7) (setL (Str.ofString "numbers") (.obj 5) (setL (Str.ofString "total") (.int (totF s)) ([Str.ofString "script"].zip [.obj 0]))))))))
noncomputable def cmpC : Expr := match (bodyA 284).drop 1 with
  | .Assign _ (.BinOp e _ _ _) _ :: _ => e
  | _ => wRd.1
theorem fmod3 (t : Int) : t.fmod 3 = 0 ∨ t.fmod 3 = 1 ∨ t.fmod 3 = 2 := by
  have h0 : 0 ≤ t.fmod 3 := Int.fmod_nonneg_of_pos _ (by decide)
  have h1 : t.fmod 3 < 3 := Int.fmod_lt_of_pos _ (by decide)
  lia
section
variable {k : Nat} {s : List Int} {o : Obj}
theorem ciC {loc : Locs} (cs0 : List AC) (h2 : cs0[2]? = some (.intL (s.take 9))) : ∀ (ns : List Int) (acc : List Int) (lc : Locs), acc.length + ns.length ≤ 900 →
    ∃ lc', CI k (compSc cmpC) [] loc (Str.ofString "n") (eltOf cmpC) cs0.length (fun cs => cs[2]? = some (.intL (s.take 9))) (ns.map .int) lc (cs0 ++ [.intL acc]) lc' (cs0 ++ [.intL (acc ++ ns.map fun n => n.fmod 1000000000)])
  | [], acc, lc, hl => ⟨lc, by simpa using CI.nil (lc := lc) (get_append h2)⟩
  | n :: ns, acc, lc, hl => by
    simp only [List.length_cons] at hl
    obtain ⟨lc', F⟩ := ciC (loc := loc) cs0 h2 ns (acc ++ [n.fmod 1000000000]) (setL (Str.ofString "n") (.int n) lc) (by simp; lia)
    refine ⟨lc', ?_⟩
    have hget : (cs0 ++ [AC.intL acc])[cs0.length]? = some (.intL acc) := by simp
    have ha := cl_lappI (k := k) (x := n.fmod 1000000000) hget (by lia)
    have hset : (cs0 ++ [AC.intL acc]).set cs0.length (.intL (acc ++ [n.fmod 1000000000])) = cs0 ++ [.intL (acc ++ [n.fmod 1000000000])] := by
      rw [List.set_append_right _ _ (Nat.le_refl _)]; simp
    rw [hset] at ha
    have e2 : acc ++ (n :: ns).map (fun n => n.fmod 1000000000) = acc ++ [n.fmod 1000000000] ++ ns.map fun n => n.fmod 1000000000 := by simp
    rw [e2]
    exact .cons (get_append h2) (cev_bin (a := .int n) (b := .int 1000000000) (cev_local rfl (by exact lk_eq) rfl) (cev_bin cev_int cev_int bin_pow9) (bin_mod _ _ (by decide))) ha F
theorem numF_len (hs : s.length ≤ 63) : (numF s).length ≤ 11 := by
  unfold numF nineF
  simp
  lia
theorem ev_C (ho : ArgOK o s) {loc : Locs} (hl : loc.lookup (Str.ofString "script") = some (.obj 0)) (hs : s.length ≤ 63) : Ev k (scA 284) loc [.fix o, .intL (s.take 60)] cmpC (.obj 3) [.fix o, .intL (s.take 60), .intL (s.take 9), .intL (nineF s)] := by
  obtain ⟨lc', FC⟩ := ciC (k := k) (s := s) (loc := loc) [AC.fix o, .intL (s.take 60), .intL (s.take 9)] rfl (s.take 9) [] [] (by simp; lia)
  have hi : Ev k (scA 284) loc [.fix o, .intL (s.take 60)] (match cmpC with | .ListComp _ [g] _ _ => g.iter | _ => wRd.1) (.obj 2) [AC.fix o, .intL (s.take 60), .intL (s.take 9)] :=
    ev_sliceF ho (i := 0) (l := s) (n := 9) (by kl_some) (by exact ev_int) rfl (by lia) (fun _ => rfl) (fun _ => rfl) (fun _ _ => rfl)
  have e : cmpC = .ListComp (eltOf cmpC) [⟨.Name (Str.ofString "n") (match cmpC with | .ListComp _ [g] _ _ => (match g.target with | .Name _ p => p | _ => default) | _ => default), (match cmpC with | .ListComp _ [g] _ _ => g.iter | _ => wRd.1), [], 0⟩] (compSc cmpC) (match cmpC with | .ListComp _ _ _ p => p | _ => default) := rfl
  rw [e]
  exact ev_compList (id := 2) (ac := .intL (s.take 9)) (ac0 := .intL []) (cs1 := [AC.fix o, .intL (s.take 60), .intL (s.take 9)]) hi (fun _ _ => rfl) (ac_intL (s.take 9)) (by decide) (.inr rfl) (by decide) rfl (by decide) rfl rfl FC
noncomputable def c6 (o : Obj) (s : List Int) : List AC := [AC.fix o, .intL (s.take 60), .intL (s.take 9), .intL (nineF s), .intL [3 * totF s + 1, 96], .intL (numF s)]
noncomputable def c8 (o : Obj) (s : List Int) : List AC := [AC.fix o, .intL (s.take 60), .intL (s.take 9), .intL (nineF s), .intL [3 * totF s + 1, 96], .intL (numF s), msAC ((numF s).foldl msgStep ([], Str.ofString "")), .strL ((msgsF (numF s)).map some)]
noncomputable def stL (n : Nat) : Stmt := match (bodyA 284).drop n with
  | s :: _ => s
  | _ => .Pass default
theorem law0 (ho : ArgOK o s) {loc : Locs} (hl : loc.lookup (Str.ofString "script") = some (.obj 0)) (hs : s.length ≤ 63) : Ex k (scA 284) loc [.fix o] (stL 0) .next (setL (Str.ofString "total") (.int (totF s)) loc) [.fix o, .intL (s.take 60)] := by
  have p9 : ∀ {loc : Locs} {cs : List AC} {n1 n2 p1 p2 p3}, Ev k (scA 284) loc cs (.BinOp (.Constant (.int 10) n1 p1) .Pow (.Constant (.int 9) n2 p2) p3) (.int 1000000000) cs := ev_bin ev_int ev_int bin_pow9
  exact ex_assign (v := .int (totF s)) (ev_bin (a := .int (s.take 60).sum) (b := .int 1000000000) (cs1 := [AC.fix o, .intL (s.take 60)]) (ev_call (by kl_some) (evl_cons (v := .obj 1) (cs1 := [AC.fix o, .intL (s.take 60)]) (ev_sliceF ho (i := 0) (l := s) (n := 60) (by kl_some) (by exact ev_int) rfl (by lia) (fun _ => rfl) (fun _ => rfl) (fun _ _ => rfl)) evl_nil (fun _ => rfl)) (cl_sumI rfl) trivial (fun _ => rfl)) p9 (bin_mod _ _ (by decide))) rfl (fun _ => rfl)
noncomputable def numR : Expr := match stL 1 with
  | .Assign _ (.BinOp _ _ r _) _ => r
  | _ => wRd.1
theorem stL1_eq : stL 1 = .Assign [.Name (Str.ofString "numbers") (match stL 1 with | .Assign [.Name _ p] _ _ => p | _ => default)] (.BinOp cmpC .Add numR (match stL 1 with | .Assign _ (.BinOp _ _ _ p) _ => p | _ => default)) (match stL 1 with | .Assign _ _ p => p | _ => default) := by kernel_rfl
theorem law1 (ho : ArgOK o s) {loc : Locs} (hl : loc.lookup (Str.ofString "script") = some (.obj 0)) (ht : loc.lookup (Str.ofString "total") = some (.int (totF s))) (hs : s.length ≤ 63) : Ex k (scA 284) loc [.fix o, .intL (s.take 60)] (stL 1) .next (setL (Str.ofString "numbers") (.obj 5) loc) (c6 o s) := by
  have hC := ev_C (k := k) ho hl hs
  rw [stL1_eq]
  refine ex_assign (v := .obj 5) (ev_addL (i := 3) (j := 4) (a := nineF s) (b := [3 * totF s + 1, 96]) (cs1 := [AC.fix o, .intL (s.take 60), .intL (s.take 9), .intL (nineF s)]) (cs2 := [AC.fix o, .intL (s.take 60), .intL (s.take 9), .intL (nineF s)] ++ [.intL [3 * totF s + 1, 96]]) hC ?_ rfl rfl (by simp [nineF]; lia)) rfl (fun _ => rfl)
  exact ev_listI (l := [3 * totF s + 1, 96]) (evl_cons (v := .int (3 * totF s + 1)) (ev_bin (a := .int (3 * totF s)) (b := .int 1) (ev_bin (a := .int 3) (b := .int (totF s)) (by kl_some) (by kl_some) (bin_mul _ _ (.of_left (by decide)))) (by kl_some) (bin_add _ _)) (evl_cons (v := .int 96) (by kl_some) evl_nil (fun _ => rfl)) (fun _ => rfl)) (by simp)
theorem law2 {loc : Locs} (hl : loc.lookup (Str.ofString "numbers") = some (.obj 5)) (hs : s.length ≤ 63) : Ex (k + 1) (scA 284) loc (c6 o s) (stL 2) .next (setL (Str.ofString "messages") (.obj 7) loc) (c8 o s) := by
  have hnl := numF_len hs
  have h5 : (c6 o s)[5]? = some (.intL (numF s)) := rfl
  have hm := cl_messages (k := k) (cs := c6 o s) (id := 5) (ns := numF s) h5 (by lia)
  exact ex_assign (v := .obj 7) (ev_call (by kl_some) (evl_cons (v := .obj 5) (by kl_some) evl_nil (fun _ => rfl)) hm cal260 (fun _ => rfl)) rfl (fun _ => rfl)
theorem law3 {loc : Locs} {cs : List AC} (ht : loc.lookup (Str.ofString "total") = some (.int (totF s))) : Ex k (scA 284) loc cs (stL 3) .next (setL (Str.ofString "head") (.int (hdF (totF s))) loc) cs := by
  have e1 : ([0, 4, 9] : List Int)[((totF s).fmod 3).toNat]? = some (hdF (totF s)) := by
    unfold hdF
    rcases fmod3 (totF s) with h | h | h <;> rw [h] <;> rfl
  have b1 : 0 ≤ (totF s).fmod 3 ∧ (totF s).fmod 3 ≤ 100000 := by rcases fmod3 (totF s) with h | h | h <;> lia
  exact ex_assign (v := .int (hdF (totF s))) (ev_sub (a := .tupI [0, 4, 9]) (i := .int ((totF s).fmod 3)) (ev_tupI (l := [0, 4, 9]) (evl_cons ev_int (evl_cons ev_int (evl_cons ev_int evl_nil (fun _ => rfl)) (fun _ => rfl)) (fun _ => rfl)) (by decide)) (by kl_some) (it_tupI b1.1 b1.2 e1) (fun _ _ => rfl)) rfl (fun _ => rfl)
theorem law4 {loc : Locs} {cs : List AC} (ht : loc.lookup (Str.ofString "total") = some (.int (totF s))) : Ex k (scA 284) loc cs (stL 4) .next (setL (Str.ofString "lead") (.str (ldF (totF s))) loc) cs := by
  have e2 : ([Str.ofString " ", Str.ofString "\t", Str.ofString "   "] : List Str)[(((totF s).fdiv 3).fmod 3).toNat]? = some (ldF (totF s)) := by
    unfold ldF
    rcases fmod3 ((totF s).fdiv 3) with h | h | h <;> rw [h] <;> rfl
  have b2 : 0 ≤ ((totF s).fdiv 3).fmod 3 ∧ ((totF s).fdiv 3).fmod 3 ≤ 100000 := by rcases fmod3 ((totF s).fdiv 3) with h | h | h <;> lia
  exact ex_assign (v := .str (ldF (totF s))) (ev_sub (a := .tupS [Str.ofString " ", Str.ofString "\t", Str.ofString "   "]) (i := .int (((totF s).fdiv 3).fmod 3)) (ev_tupS (l := [Str.ofString " ", Str.ofString "\t", Str.ofString "   "]) (by exact evl_cons (v := .str (Str.ofString " ")) ev_str (evl_cons (v := .str (Str.ofString "\t")) ev_str (evl_cons (v := .str (Str.ofString "   ")) ev_str evl_nil (fun _ => rfl)) (fun _ => rfl)) (fun _ => rfl)) (by decide)) (by kl_some) (it_tupS b2.1 b2.2 e2) (fun _ _ => rfl)) rfl (fun _ => rfl)
theorem law5 {loc : Locs} {cs : List AC} (ht : loc.lookup (Str.ofString "total") = some (.int (totF s))) : Ex k (scA 284) loc cs (stL 5) .next (setL (Str.ofString "width") (.int (wdF (totF s))) loc) cs :=
  ex_assign (v := .int (8 + ((totF s).fdiv 9).fmod 12)) (by kl_some) rfl (fun _ => rfl)
theorem law6 {loc : Locs} : Ex (k + 2) (scA 284) loc (c8 o s) (stL 6) .next (setL (Str.ofString "coder") (.obj 8) loc) (baseF o s) :=
  ex_assign (v := .obj 8) (ev_call (by kl_some) evl_nil (cl_coder (k := k)) cal253 (fun _ => rfl)) rfl (fun _ => rfl)
theorem ldF_len (t : Int) : (ldF t).length ≤ 3 := by
  unfold ldF
  rcases fmod3 (t.fdiv 3) with h | h | h <;> rw [h] <;> decide
theorem law7 {loc : Locs} {hd wd : Int} {ld : Str} (h1 : loc.lookup (Str.ofString "head") = some (.int hd)) (h2 : loc.lookup (Str.ofString "width") = some (.int wd)) (h3 : loc.lookup (Str.ofString "lead") = some (.str ld)) (hld : ld.length ≤ 100) :
    Ex (k + 8) (scA 284) loc (baseF o s) (stL 7) .next (setL (Str.ofString "formatter") (.obj 11) loc) (cF (baseF o s) wd ld [] [] hd) := by
  have h := cl_newFm (k := k) (cs := baseF o s) (hd := hd) (wd := wd) (ws := ld) (sp := Str.ofString ";, ") hld
  refine ex_assign (v := .obj 11) (ev_callC (ev_stat rfl gl_ValueFormatter rfl) (avs := [.int hd, .int wd, .str ld, .str (Str.ofString ";, ")]) (by kl_some) h keep109 (fun _ => rfl) (fun _ => rfl)) rfl (fun _ => rfl)
theorem law_pre (ho : ArgOK o s) {rest : List Stmt} (hs : s.length ≤ 63) {f : AF} {cs' : List AC} (h : Bf (k + 9) (scA 284) (locF s) (cF (baseF o s) (wdF (totF s)) (ldF (totF s)) [] [] (hdF (totF s))) rest f cs') :
    Bf (k + 9) (scA 284) ([Str.ofString "script"].zip [.obj 0]) [.fix o] (stL 0 :: stL 1 :: stL 2 :: stL 3 :: stL 4 :: stL 5 :: stL 6 :: stL 7 :: rest) f cs' := by
  refine bf_cons (law0 ho rfl hs) (bf_cons (law1 ho rfl rfl hs) (bf_cons (law2 (k := k + 8) rfl hs) (bf_cons (law3 rfl) (bf_cons (law4 rfl) (bf_cons (law5 rfl) (bf_cons (law6 (k := k + 7)) (bf_cons (law7 (k := k + 1) rfl rfl rfl (by have := ldF_len (totF s); lia)) h)))))))
end
end
section
open PySem PySem.W PyProof.Rows PySem.Calls
structure FinOK (ml : Int) (ls : List Str) (l : List (Str × Str)) (init : Int) : Prop where
  acc : ∀ p ∈ l, p.1.length + p.2.length ≤ 1000
  num : l.length ≤ 100
  ini : 0 ≤ init ∧ init ≤ 1000
  lines : ls.length ≤ 900
  space : init = 0 → Txt.isspace (accStr (nlAcc l)) = false
  ok : ∀ p ∈ l, PyData.strOk p.1 = true ∧ PyData.strOk p.2 = true
  pos : 0 < init + accLen (nlAcc l)
  sum : ((ls ++ [accStr (nlAcc l)]).map (·.length)).sum + (ls ++ [accStr (nlAcc l)]).length ≤ 100000
  joined : (Txt.join (Str.ofString "\n") (ls ++ [accStr (nlAcc l)])).length ≤ 100000
structure LawOK (s : List Int) (msgs : List Str) (hd wd : Int) (ld : Str) (rows : List Str) (outs : List (List Nat)) : Prop where
  feed : ∃ ls l init, FeedRun wd ld ls l init 0 msgs [] [] hd ∧ FinOK wd ls l init ∧ Txt.split (Txt.join (Str.ofString "\n") (ls ++ [accStr (nlAcc l)])) (Str.ofString "\n") = rows
  h5 : 5 ≤ wd - ld.length
  due : Due (shL msgs) (ownersF 0 msgs) (0 :: befF (shL msgs) 0) hd wd ld 0 [] rows
  ok : (rows.map some).all okO = true
  len : rows.length ≤ 900
  mlen : msgs.length ≤ 900
  codes : ∀ m ∈ msgs, ∀ c ∈ m.cps.toList, c < 256
  shown : (shL msgs).length ≤ 300
  read : All2 (fun (r : Str) (o : List Nat) => r.length ≤ 5000 ∧ Rd false r.cps.toList o) rows outs
  same : Txt.join (Str.ofString "") (outs.map fun o => (⟨o.toArray⟩ : Str)) = Txt.join (Str.ofString "") msgs
  sum1 : ((outs.map fun o => (⟨o.toArray⟩ : Str)).map (·.length)).sum + outs.length ≤ 100000
  sum2 : (msgs.map (·.length)).sum + msgs.length ≤ 100000
noncomputable def cmpD : Expr := match (bodyA 284).drop 12 with
  | .Return (some (.Compare (.Call _ [e] _ _) _ _ _)) _ :: _ => e
  | _ => wRd.1
section
variable {k : Nat} {s : List Int} {o : Obj}
theorem ciD {loc : Locs} {id : Nat} {rows : List Str} (cs0 : List AC) (h2 : cs0[id]? = some (.strL (rows.map some))) : ∀ (rs : List Str) (os : List (List Nat)) (acc : List Str) (lc : Locs), All2 (fun (r : Str) (o : List Nat) => r.length ≤ 5000 ∧ Rd false r.cps.toList o) rs os → acc.length + rs.length ≤ 1000 →
    ∃ lc', CI (k + 6) (compSc cmpD) [] loc (Str.ofString "row") (eltOf cmpD) cs0.length (fun cs => cs[id]? = some (.strL (rows.map some))) (rs.map fun r => AV.str r) lc (cs0 ++ [.strL (acc.map some)]) lc' (cs0 ++ [.strL ((acc ++ os.map fun o => (⟨o.toArray⟩ : Str)).map some)])
  | [], _, acc, lc, .nil, hl => ⟨lc, by simpa using CI.nil (lc := lc) (get_append h2)⟩
  | r :: rs, o :: os, acc, lc, .cons hr h, hl => by
    simp only [List.length_cons] at hl
    obtain ⟨lc', F⟩ := ciD (loc := loc) cs0 h2 rs os (acc ++ [(⟨o.toArray⟩ : Str)]) (setL (Str.ofString "row") (.str r) lc) h (by simp; lia)
    refine ⟨lc', ?_⟩
    have hget : (cs0 ++ [AC.strL (acc.map some)])[cs0.length]? = some (.strL (acc.map some)) := by simp
    have ha := cl_lappS (k := k + 6) (x := (⟨o.toArray⟩ : Str)) hget (by simp; lia)
    have hset : (cs0 ++ [AC.strL (acc.map some)]).set cs0.length (.strL (acc.map some ++ [some (⟨o.toArray⟩ : Str)])) = cs0 ++ [.strL ((acc ++ [(⟨o.toArray⟩ : Str)]).map some)] := by
      rw [List.set_append_right _ _ (Nat.le_refl _)]; simp
    rw [hset] at ha
    have e2 : acc ++ (o :: os).map (fun o => (⟨o.toArray⟩ : Str)) = acc ++ [(⟨o.toArray⟩ : Str)] ++ os.map fun o => (⟨o.toArray⟩ : Str) := by simp
    rw [e2]
    exact .cons (get_append h2) (cev_call (cev_stat rfl gl_law_read rfl) (cevl_cons (v := .str r) (cev_local rfl (by exact lk_eq) rfl) cevl_nil (fun _ => rfl)) (cl_read hr.1 hr.2) cal279 (fun _ => rfl)) ha F
theorem ev_D {loc : Locs} {id : Nat} {rows : List Str} {outs : List (List Nat)} {cs : List AC} (hl : loc.lookup (Str.ofString "rows") = some (.obj id)) (hid : cs[id]? = some (.strL (rows.map some))) (hr : All2 (fun (r : Str) (o : List Nat) => r.length ≤ 5000 ∧ Rd false r.cps.toList o) rows outs) (hn : rows.length ≤ 1000) :
    Ev (k + 6) (scA 284) loc cs cmpD (.obj cs.length) (cs ++ [.strL ((outs.map fun o => (⟨o.toArray⟩ : Str)).map some)]) := by
  obtain ⟨lc', FC⟩ := ciD (k := k) (loc := loc) cs hid rows outs [] [] hr (by simpa using hn)
  have e : cmpD = .ListComp (eltOf cmpD) [⟨.Name (Str.ofString "row") (match cmpD with | .ListComp _ [g] _ _ => (match g.target with | .Name _ p => p | _ => default) | _ => default), .Name (Str.ofString "rows") (match cmpD with | .ListComp _ [g] _ _ => (match g.iter with | .Name _ p => p | _ => default) | _ => default), [], 0⟩] (compSc cmpD) (match cmpD with | .ListComp _ _ _ p => p | _ => default) := by kernel_rfl
  rw [e]
  have itm : (rows.map some).map ofO = rows.map fun m => AV.str m := by rw [List.map_map]; rfl
  exact ev_compList (id := id) (ac := .strL (rows.map some)) (ac0 := .strL []) (cs1 := cs) (items := rows.map fun m => AV.str m) (ev_local rfl hl rfl) (fun _ _ => rfl) (by rw [← itm]; exact ac_strL _) (by decide) (.inl rfl) (by decide) (by kernel_rfl) (by decide) (by kernel_rfl) hid FC
theorem base_still : ∀ ac ∈ baseF o s, Still ac := by
  intro ac h
  simp only [baseF, List.mem_cons, List.not_mem_nil, or_false] at h
  rcases h with rfl | rfl | rfl | rfl | rfl | rfl | rfl | rfl | rfl <;> trivial
theorem base_closed : ∀ ac ∈ baseF o s, Closed (baseF o s).length ac := by
  intro ac h
  simp only [baseF, List.mem_cons, List.not_mem_nil, or_false] at h
  rcases h with rfl | rfl | rfl | rfl | rfl | rfl | rfl | rfl | rfl <;> trivial
theorem law8 {msgs ls : List Str} {l : List (Str × Str)} {init hd wd : Int} {ld : Str} (hm : msgs = msgsF (numF s)) (hF : FeedRun wd ld ls l init 0 msgs [] [] hd) (h5 : 5 ≤ wd - ld.length) (hld : ld.length ≤ 100) (hN : msgs.length ≤ 900) {loc : Locs} (L : LFe loc 11 7 8) :
    ∃ loc', Ex (k + 9) (scA 284) loc (cF (baseF o s) wd ld [] [] hd) (stL 8) .next loc' (cF (baseF o s) wd ld ls l init) ∧ (∀ y, y ≠ Str.ofString "k" → loc'.lookup y = loc.lookup y) := by
  have hmi : (baseF o s)[7]? = some (.strL (msgs.map some)) := by rw [hm]; rfl
  obtain ⟨loc', F, q⟩ := feed_loop (k := k) hmi (show (baseF o s)[8]? = some .coder from rfl) base_still base_closed h5 hld hN hF rfl (Nat.zero_le _) loc L
  refine ⟨loc', ?_, q⟩
  have hl : (msgs.map some).length ≤ 100000 := by simp; lia
  have cln := cl_lenSL (k := k + 9) (cF_base (ml := wd) (ws := ld) (ls := []) (l := []) (init := hd) hmi) hl
  rw [List.length_map] at cln
  have l2 := L.messages
  exact ex_forRange1 (b := (msgs.length : Int)) (ev_stat rfl glT_range rfl) (evl_cons (v := .int msgs.length) (ev_call (by kl_some) (by kl_some) cln trivial (fun _ => rfl)) evl_nil (fun _ => rfl)) rfl (by exact F) (by lia) (by lia) (fun _ => rfl) (fun _ _ => rfl)
theorem law9 {ls : List Str} {l : List (Str × Str)} {init wd : Int} {ld : Str} {loc : Locs} (hf : loc.lookup (Str.ofString "formatter") = some (.obj 11)) (H : FinOK wd ls l init) :
    Ex (k + 7) (scA 284) loc (cF (baseF o s) wd ld ls l init) (stL 9) .next (setL (Str.ofString "written") (.str (Txt.join (Str.ofString "\n") (ls ++ [accStr (nlAcc l)]))) loc) (cF (baseF o s) wd ld (ls ++ [accStr (nlAcc l)]) [] 0) := by
  have c := cl_fmStr (k := k) (sep := Str.ofString "\n") (ml := wd) (ws := ld) (cF_f (base := baseF o s)) cF_li cF_ai (cF_closed base_closed) H.acc H.num H.ini H.lines (fun h _ => H.space h) H.ok H.pos (by decide) H.sum
  rw [cF_setl (ls2 := ls ++ [accStr (nlAcc l)]) rfl, cF_seta] at c
  refine ex_assign (v := .str (Txt.join (Str.ofString "\n") (ls ++ [accStr (nlAcc l)]))) (ev_method (by kl_some) (m_str (cF_f (base := baseF o s))) (evl_cons (v := .str (Str.ofString "\n")) (by exact ev_str) evl_nil (fun _ => rfl)) c cal57 (fun _ => rfl) (fun _ => rfl)) rfl (fun _ => rfl)
theorem law10 {W : Str} {cs : List AC} {loc : Locs} (hw : loc.lookup (Str.ofString "written") = some (.str W)) (hW : W.length ≤ 100000) :
    Ex k (scA 284) loc cs (stL 10) .next (setL (Str.ofString "rows") (.obj cs.length) loc) (cs ++ [.strL ((Txt.split W (Str.ofString "\n")).map some)]) := by
  have c := cl_split (k := k) (cs := cs) (x := W) (y := Str.ofString "\n") rfl hW
  exact ex_assign (v := .obj cs.length) (ev_methodS ms_split (by kl_some) (evl_cons (v := .str (Str.ofString "\n")) (by exact ev_str) evl_nil (fun _ => rfl)) c (fun _ => rfl) (fun _ => rfl)) rfl (fun _ => rfl)
theorem law11 {msgs rows : List Str} {hd wd : Int} {ld : Str} {outs : List (List Nat)} (H : LawOK s msgs hd wd ld rows outs) (hld : ld.length ≤ 100) {cs : List AC} {i : Nat} (h7 : cs[7]? = some (.strL (msgs.map some))) (hi : cs[i]? = some (.strL (rows.map some))) (hcl : ∀ ac ∈ cs, Closed cs.length ac) {loc : Locs}
    (g1 : loc.lookup (Str.ofString "rows") = some (.obj i)) (g2 : loc.lookup (Str.ofString "messages") = some (.obj 7)) (g3 : loc.lookup (Str.ofString "head") = some (.int hd)) (g4 : loc.lookup (Str.ofString "width") = some (.int wd)) (g5 : loc.lookup (Str.ofString "lead") = some (.str ld)) :
    ∃ cs', Ex (k + 2) (scA 284) loc cs (stL 11) .next loc (cs ++ cs') := by
  have c := cl_due (k := k) h7 H.mlen H.codes H.shown hcl hld H.ok H.len H.due
  refine ⟨_, ex_ifF (tst_eq (tst_cmpc (a := .obj i) (b := .obj (cs.length + 3)) (by kl_some) (ev_call (ev_stat rfl gl_law_due rfl) (by kl_some) c cal272 (fun _ => rfl)) (cmpc_neSL (l := rows.map some) (m := rows.map some) ?_ ?_ H.ok H.ok) rfl) (by rw [eqv_self]; rfl)) exs_nil⟩
  · rw [List.getElem?_append_left (lt_of_get hi)]; exact hi
  · rw [List.getElem?_append_right (by lia)]; simp
noncomputable def r12 : Expr := match stL 12 with
  | .Return (some e) _ => e
  | _ => wRd.1
noncomputable def p12 : Pos := match stL 12 with
  | .Return _ p => p
  | _ => default
noncomputable def cl12 : Expr := match r12 with
  | .Compare l _ _ _ => l
  | e => e
noncomputable def cr12 : Expr := match r12 with
  | .Compare _ _ [r] _ => r
  | e => e
noncomputable def cp12 : Pos := match r12 with
  | .Compare _ _ _ p => p
  | _ => default
noncomputable def at12 : Expr := match cl12 with
  | .Call a _ _ _ => a
  | e => e
noncomputable def ap12 : Pos := match cl12 with
  | .Call _ _ _ p => p
  | _ => default
noncomputable def ao12 : Pos := match at12 with
  | .Attribute (.Constant _ _ p) _ _ => p
  | _ => default
noncomputable def aq12 : Pos := match at12 with
  | .Attribute _ _ p => p
  | _ => default
theorem stL12_eq : stL 12 = .Return (some (.Compare (.Call (.Attribute (.Constant (.str (Str.ofString "")) 0 ao12) (Str.ofString "join") aq12) [cmpD] [] ap12) [.Eq] [cr12] cp12)) p12 := by kernel_rfl
theorem ev_R12 {loc : Locs} {msgs : List Str} {cs : List AC} (g2 : loc.lookup (Str.ofString "messages") = some (.obj 7)) (j2 : Cl k cs (.builtin "str.join") [.str (Str.ofString ""), .obj 7] (.str (Txt.join (Str.ofString "") msgs)) cs) : Ev k (scA 284) loc cs cr12 (.str (Txt.join (Str.ofString "") msgs)) cs :=
  ev_methodS ms_join (by exact ev_str) (evl_cons (v := .obj 7) (ev_local rfl g2 rfl) evl_nil (fun _ => rfl)) j2 (fun _ => rfl) (fun _ => rfl)
theorem law12 {msgs rows : List Str} {hd wd : Int} {ld : Str} {outs : List (List Nat)} (H : LawOK s msgs hd wd ld rows outs) {cs : List AC} {i : Nat} (h7 : cs[7]? = some (.strL (msgs.map some))) (hi : cs[i]? = some (.strL (rows.map some))) {loc : Locs}
    (g1 : loc.lookup (Str.ofString "rows") = some (.obj i)) (g2 : loc.lookup (Str.ofString "messages") = some (.obj 7)) : ∃ cs', (∀ (j : Nat) ac, cs[j]? = some ac → cs'[j]? = some ac) ∧ Ex (k + 6) (scA 284) loc cs (stL 12) (.ret (.bool true)) loc cs' := by
  have hD := ev_D (k := k) g1 hi H.read (by have := H.len; lia)
  have hn : (cs ++ [AC.strL ((outs.map fun o => (⟨o.toArray⟩ : Str)).map some)])[cs.length]? = some (.strL ((outs.map fun o => (⟨o.toArray⟩ : Str)).map some)) := by simp
  have j1 := cl_joinSL (k := k + 6) (x := Str.ofString "") hn (by decide) (by have e := List.length_map (as := outs) (fun o : List Nat => (⟨o.toArray⟩ : Str)); rw [e]; exact H.sum1)
  have j2 := cl_joinSL (k := k + 6) (x := Str.ofString "") (cs := cs ++ [AC.strL ((outs.map fun o => (⟨o.toArray⟩ : Str)).map some)]) (i := 7) (l := msgs) (by rw [List.getElem?_append_left (lt_of_get h7)]; exact h7) (by decide) H.sum2
  refine hideG fun Gq hGq => ?_
  obtain ⟨q1, q2, q3, q4, ec⟩ : ∃ elt gens sc p, cmpD = .ListComp elt gens sc p := ⟨eltOf cmpD, (match cmpD with | .ListComp _ g _ _ => g | _ => []), compSc cmpD, (match cmpD with | .ListComp _ _ _ p => p | _ => default), by kernel_rfl⟩
  refine hGq ?_
  clear hGq Gq
  have hR := ev_R12 g2 j2
  rw [stL12_eq]
  have hb : behindInMarks CmpOp.Eq cr12 = false := by kernel_rfl
  generalize cr12 = er at hR hb ⊢
  rw [ec] at hD ⊢
  refine ⟨cs ++ [AC.strL ((outs.map fun o => (⟨o.toArray⟩ : Str)).map some)], fun j ac h => get_append h, ex_ret (ev_eqC (ev_cmpc (a := .str (Txt.join (Str.ofString "") (outs.map fun o => (⟨o.toArray⟩ : Str)))) (b := .str (Txt.join (Str.ofString "") msgs)) (ev_methodS ms_join (by exact ev_str) (evl_cons hD evl_nil (fun _ => rfl)) j1 (fun _ => rfl) (fun _ => rfl)) hR (cmp_eqS _ _).c hb) ?_ rfl)⟩
  rw [decide_eq_true H.same]
theorem cl_law (ho : ArgOK o s) {rows : List Str} {outs : List (List Nat)} (hs : s.length ≤ 63) (H : LawOK s (msgsF (numF s)) (hdF (totF s)) (wdF (totF s)) (ldF (totF s)) rows outs) :
    ∃ cs', cs'[0]? = some (.fix o) ∧ Bf (k + 9) (scA 284) ([Str.ofString "script"].zip [.obj 0]) [.fix o] (stL 0 :: stL 1 :: stL 2 :: stL 3 :: stL 4 :: stL 5 :: stL 6 :: stL 7 :: stL 8 :: stL 9 :: stL 10 :: stL 11 :: stL 12 :: []) (.ret (.bool true)) cs' := by
  have hld : (ldF (totF s)).length ≤ 100 := by have := ldF_len (totF s); lia
  refine hideG fun Gq hGq => ?_
  obtain ⟨ls, l, init, hF, hfin, hrows⟩ := H.feed
  have L : LFe (locF s) 11 7 8 := ⟨rfl, rfl, rfl⟩
  obtain ⟨loc8, x8, q8⟩ := law8 (k := k) (s := s) (o := o) rfl hF H.h5 hld H.mlen L
  refine hGq ?_
  clear hGq Gq
  have g : ∀ y v, y ≠ Str.ofString "k" → (locF s).lookup y = some v → loc8.lookup y = some v := fun y v h e => (q8 y h).trans e
  have x9 := law9 (k := k + 2) (s := s) (o := o) (ld := ldF (totF s)) (loc := loc8) (g _ _ (by decide) rfl) hfin
  have x10 := law10 (k := k + 9) (cs := cF (baseF o s) (wdF (totF s)) (ldF (totF s)) (ls ++ [accStr (nlAcc l)]) [] 0) (loc := setL (Str.ofString "written") (.str (Txt.join (Str.ofString "\n") (ls ++ [accStr (nlAcc l)]))) loc8) lk_eq hfin.joined
  rw [hrows] at x10
  have hc12 : (cF (baseF o s) (wdF (totF s)) (ldF (totF s)) (ls ++ [accStr (nlAcc l)]) [] 0).length = 12 := by rw [cF_len]; rfl
  have h7 : (cF (baseF o s) (wdF (totF s)) (ldF (totF s)) (ls ++ [accStr (nlAcc l)]) [] 0)[7]? = some (.strL ((msgsF (numF s)).map some)) := cF_base rfl
  have hcl := cF_closed (ml := wdF (totF s)) (ws := ldF (totF s)) (ls := ls ++ [accStr (nlAcc l)]) (l := []) (init := 0) (base_closed (o := o) (s := s))
  have h0 : (cF (baseF o s) (wdF (totF s)) (ldF (totF s)) (ls ++ [accStr (nlAcc l)]) [] 0)[0]? = some (.fix o) := cF_base rfl
  generalize cF (baseF o s) (wdF (totF s)) (ldF (totF s)) (ls ++ [accStr (nlAcc l)]) [] 0 = cs1 at *
  rw [hc12] at x10
  have g2 : ∀ y v, y ≠ Str.ofString "k" → y ≠ Str.ofString "written" → y ≠ Str.ofString "rows" → (locF s).lookup y = some v → (setL (Str.ofString "rows") (.obj 12) (setL (Str.ofString "written") (.str (Txt.join (Str.ofString "\n") (ls ++ [accStr (nlAcc l)]))) loc8)).lookup y = some v := fun y v h1 h2 h3 e => lk_ne h3 (lk_ne h2 (g y v h1 e))
  have hr12 : (cs1 ++ [AC.strL (rows.map some)])[12]? = some (.strL (rows.map some)) := by rw [← hc12]; simp
  have h7' : (cs1 ++ [AC.strL (rows.map some)])[7]? = some (.strL ((msgsF (numF s)).map some)) := get_append h7
  have hcl' : ∀ ac ∈ cs1 ++ [AC.strL (rows.map some)], Closed (cs1 ++ [AC.strL (rows.map some)]).length ac := by
    intro ac h
    rcases List.mem_append.mp h with h | h
    · exact (hcl ac h).mono (by simp)
    · rw [List.mem_singleton.mp h]; trivial
  refine hideG fun Gq hGq => ?_
  obtain ⟨cs2, x11⟩ := law11 (k := k + 7) H hld h7' hr12 hcl' lk_eq (g2 _ _ (by decide) (by decide) (by decide) rfl) (g2 _ _ (by decide) (by decide) (by decide) rfl) (g2 _ _ (by decide) (by decide) (by decide) rfl) (g2 _ _ (by decide) (by decide) (by decide) rfl)
  obtain ⟨cs3, hk3, x12⟩ := law12 (k := k + 3) H (cs := cs1 ++ [AC.strL (rows.map some)] ++ cs2) (i := 12) (by rw [List.getElem?_append_left (lt_of_get h7')]; exact h7') (by rw [List.getElem?_append_left (lt_of_get hr12)]; exact hr12) (loc := setL (Str.ofString "rows") (.obj 12) (setL (Str.ofString "written") (.str (Txt.join (Str.ofString "\n") (ls ++ [accStr (nlAcc l)]))) loc8)) lk_eq (g2 _ _ (by decide) (by decide) (by decide) rfl)
  refine hGq ?_
  clear hGq Gq
  refine ⟨cs3, hk3 0 _ (by rw [List.getElem?_append_left (by rw [List.length_append]; have := lt_of_get h0; lia), List.getElem?_append_left (lt_of_get h0)]; exact h0), law_pre ho hs ?_⟩
  exact bf_cons x8 (bf_cons x9 (bf_cons x10 (bf_cons x11 (bf_exr x12))))
end
end
end
end Mine
namespace Mine
open PySem PySem.W PyProof.Rows PySem.Calls
noncomputable section
noncomputable def toL (x : Str) : List Nat := x.cps.toList
theorem toL_app (x y : Str) : toL (x ++ y) = toL x ++ toL y := by
  show (x.cps ++ y.cps).toList = _
  simp [toL]
theorem toL_inj {x y : Str} (h : toL x = toL y) : x = y := by
  obtain ⟨a⟩ := x
  obtain ⟨b⟩ := y
  congr 1
  exact Array.toList_inj.mp h
theorem toL_len (x : Str) : x.length = (toL x).length := (Array.length_toList).symm
theorem toL_one (c : Nat) : toL (one c) = [c] := rfl
theorem toL_empty : toL (Str.ofString "") = [] := rfl
theorem toL_blank : toL (Str.ofString " ") = [32] := by decide +kernel
theorem app_assoc (x y z : Str) : x ++ y ++ z = x ++ (y ++ z) := toL_inj (by simp only [toL_app, List.append_assoc])
theorem app_empty (x : Str) : x ++ Str.ofString "" = x := toL_inj (by rw [toL_app, toL_empty, List.append_nil])
theorem empty_app (x : Str) : Str.ofString "" ++ x = x := toL_inj (by rw [toL_app, toL_empty, List.nil_append])
noncomputable def ro (sh : List Str) (ow : List Int) (b : Nat) : Nat → Str
  | 0 => one 171 ++ (sh[b]?).getD (Str.ofString "")
  | n + 1 => ro sh ow b n ++ (if ow[b + n + 1]? ≠ ow[b + n]? then one 187 ++ Str.ofString " " ++ one 171 else Str.ofString "") ++ (sh[b + n + 1]?).getD (Str.ofString "")
theorem rowGo_ro (sh : List Str) (ow : List Int) (b e : Nat) : ∀ (m n : Nat), b + n + 1 + m = e → 0 < m →
    rowGo sh ow b e m (b + n + 1) (ro sh ow b n ++ (if ow[b + n]? ≠ ow[b + n + 1]? then one 187 else Str.ofString "")) = ro sh ow b (n + m) ++ one 187
  | 0, _, _, h0 => absurd h0 (by lia)
  | m + 1, n, h, _ => by
    have hstep : rowStep sh ow b e (b + n + 1) (ro sh ow b n ++ (if ow[b + n]? ≠ ow[b + n + 1]? then one 187 else Str.ofString "")) =
        (if b + n + 1 + 1 = e ∨ ow[b + n + 1]? ≠ ow[b + n + 1 + 1]? then ro sh ow b (n + 1) ++ one 187 else ro sh ow b (n + 1)) := by
      unfold rowStep
      have h1 : ¬ b + n + 1 = b := by lia
      have h2 : b + n + 1 - 1 = b + n := by lia
      simp only [h1, if_false, h2]
      have e1 : (if ow[b + n + 1]? ≠ ow[b + n]? then ro sh ow b n ++ (if ow[b + n]? ≠ ow[b + n + 1]? then one 187 else Str.ofString "") ++ Str.ofString " " ++ one 171 else ro sh ow b n ++ (if ow[b + n]? ≠ ow[b + n + 1]? then one 187 else Str.ofString "")) ++ (sh[b + n + 1]?).getD (Str.ofString "") = ro sh ow b (n + 1) := by
        rw [ro]
        by_cases hw : ow[b + n]? = ow[b + n + 1]?
        · rw [hw]; simp [app_empty]
        · have hw' : ow[b + n + 1]? ≠ ow[b + n]? := fun h => hw h.symm
          rw [if_pos hw', if_pos hw', if_pos hw]
          simp only [app_assoc]
      rw [e1]
    rw [rowGo, hstep]
    cases m with
    | zero =>
      rw [if_pos (.inl (by lia)), rowGo]
    | succ m =>
      have hne : ¬ b + n + 1 + 1 = e := by lia
      have ih := rowGo_ro sh ow b e (m + 1) (n + 1) (by lia) (by lia)
      have e2 : (if b + n + 1 + 1 = e ∨ ow[b + n + 1]? ≠ ow[b + n + 1 + 1]? then ro sh ow b (n + 1) ++ one 187 else ro sh ow b (n + 1)) = ro sh ow b (n + 1) ++ (if ow[b + (n + 1)]? ≠ ow[b + (n + 1) + 1]? then one 187 else Str.ofString "") := by
        have e3 : b + (n + 1) = b + n + 1 := by lia
        rw [e3]
        by_cases hw : ow[b + n + 1]? = ow[b + n + 1 + 1]?
        · rw [if_neg (by simp [hne, hw]), if_neg (by simp [hw]), app_empty]
        · rw [if_pos (.inr hw), if_pos hw]
      rw [e2]
      have e4 : b + n + 1 + 1 = b + (n + 1) + 1 := by lia
      rw [e4, ih]
      congr 2
      lia
theorem rowF_ro (sh : List Str) (ow : List Int) (b n : Nat) : rowF sh ow b (b + n + 1) = ro sh ow b n ++ one 187 := by
  unfold rowF
  have e0 : b + n + 1 - b = n + 1 := by lia
  rw [e0, rowGo]
  have hstep : rowStep sh ow b (b + n + 1) b (Str.ofString "") = (if b + 1 = b + n + 1 ∨ ow[b]? ≠ ow[b + 1]? then ro sh ow b 0 ++ one 187 else ro sh ow b 0) := by
    unfold rowStep
    simp only [if_true, empty_app, ro]
  rw [hstep]
  cases n with
  | zero => rw [if_pos (.inl rfl), rowGo]
  | succ n =>
    have ih := rowGo_ro sh ow b (b + (n + 1) + 1) (n + 1) 0 (by lia) (by lia)
    have e2 : (if b + 1 = b + (n + 1) + 1 ∨ ow[b]? ≠ ow[b + 1]? then ro sh ow b 0 ++ one 187 else ro sh ow b 0) = ro sh ow b 0 ++ (if ow[b + 0]? ≠ ow[b + 0 + 1]? then one 187 else Str.ofString "") := by
      have e3 : b + 0 = b := rfl
      rw [e3]
      by_cases hw : ow[b]? = ow[b + 1]?
      · rw [if_neg (by simp [hw]), if_neg (by simp [hw]), app_empty]
      · rw [if_pos (.inr hw), if_pos hw]
    rw [e2]
    have e5 : b + 1 = b + 0 + 1 := by lia
    rw [e5, ih]
    congr 2
    lia
theorem rowF_self (sh : List Str) (ow : List Int) (b : Nat) : rowF sh ow b b = Str.ofString "" := by
  unfold rowF
  rw [Nat.sub_self, rowGo]
end
end Mine
namespace Mine
open PySem PySem.W PyProof.Rows PySem.Calls
noncomputable section
theorem farJ_keep {ow bef : List Int} {room : Int} {i J : Nat} : ∀ (m j f : Nat), f ≤ J → (∀ t, j ≤ t → t < j + m → costF ow bef i t ≤ room → t ≤ J) → farJ ow bef room i m j f ≤ J ∧ f ≤ farJ ow bef room i m j f ∨ farJ ow bef room i m j f ≤ J
  | 0, j, f, hf, _ => .inr hf
  | m + 1, j, f, hf, h => by
    right
    rw [farJ]
    rcases farJ_keep (ow := ow) (bef := bef) (room := room) (i := i) (J := J) m (j + 1) (if costF ow bef i j ≤ room then j else f) (by
      split
      · rename_i hc; exact h j (Nat.le_refl _) (by lia) hc
      · exact hf) (fun t h1 h2 => h t (by lia) (by lia)) with h | h
    · exact h.1
    · exact h
theorem farJ_ge {ow bef : List Int} {room : Int} {i : Nat} : ∀ (m j f : Nat), f < j → f ≤ farJ ow bef room i m j f
  | 0, j, f, _ => Nat.le_refl _
  | m + 1, j, f, h => by
    rw [farJ]
    by_cases hc : costF ow bef i j ≤ room
    · rw [if_pos hc]
      have := farJ_ge (ow := ow) (bef := bef) (room := room) (i := i) m (j + 1) j (by lia)
      lia
    · rw [if_neg hc]
      exact farJ_ge m (j + 1) f (by lia)
theorem farJ_eq {ow bef : List Int} {room : Int} {e J N : Nat} (h : ∀ t, e < t → t ≤ N → (costF ow bef e t ≤ room ↔ t ≤ J)) (hJ : J ≤ N) : ∀ (m j f : Nat), e < j → j + m = N + 1 →
    (j ≤ J → farJ ow bef room e m j f = J) ∧ (J < j → farJ ow bef room e m j f = f)
  | 0, j, f, hj, hm => ⟨fun h => by lia, fun _ => rfl⟩
  | m + 1, j, f, hj, hm => by
    have ih := farJ_eq h hJ m (j + 1) (if costF ow bef e j ≤ room then j else f) (by lia) (by lia)
    have hc := h j hj (by lia)
    rw [farJ]
    constructor
    · intro hle
      have hcc := hc.mpr hle
      rw [if_pos hcc] at ih ⊢
      by_cases hlt : j + 1 ≤ J
      · exact ih.1 hlt
      · have : J = j := by lia
        rw [ih.2 (by lia), this]
    · intro hlt
      have hcc : ¬ costF ow bef e j ≤ room := fun h => by have := hc.mp h; lia
      rw [if_neg hcc] at ih ⊢
      exact ih.2 (by lia)
theorem farI_keep {ow bef : List Int} {room : Int} {e J N : Nat} (h : ∀ i t, i ≤ e → e < t → t ≤ N → costF ow bef i t ≤ room → t ≤ J) (hJ : J ≤ N) (he : e ≤ J) : ∀ (m i f : Nat), i + m ≤ e + 1 → e ≤ f → f ≤ J → e ≤ farI ow bef room N m i f ∧ farI ow bef room N m i f ≤ J
  | 0, i, f, _, h1, h2 => ⟨h1, h2⟩
  | m + 1, i, f, hm, h1, h2 => by
    rw [farI]
    have k1 := farJ_ge (ow := ow) (bef := bef) (room := room) (i := i) (N - f) (f + 1) f (by lia)
    have k2 := farJ_keep (ow := ow) (bef := bef) (room := room) (i := i) (J := J) (N - f) (f + 1) f h2 (fun t a b c => h i t (by lia) (by lia) (by lia) c)
    exact farI_keep h hJ he m (i + 1) _ (by lia) (by lia) (by rcases k2 with k | k <;> lia)
theorem farI_split {ow bef : List Int} {room : Int} {N : Nat} : ∀ (m i f : Nat), farI ow bef room N (m + 1) i f = farJ ow bef room (i + m) (N - farI ow bef room N m i f) (farI ow bef room N m i f + 1) (farI ow bef room N m i f)
  | 0, i, f => by rw [farI, farI, farI]; rfl
  | m + 1, i, f => by
    rw [farI, farI_split m (i + 1)]
    have e : i + 1 + m = i + (m + 1) := by lia
    rw [e]
    rfl
theorem farF_eq {ow bef : List Int} {room : Int} {e J N : Nat} (h1 : ∀ i t, i ≤ e → e < t → t ≤ N → costF ow bef i t ≤ room → costF ow bef e t ≤ room) (h : ∀ t, e < t → t ≤ N → (costF ow bef e t ≤ room ↔ t ≤ J)) (hJ : J ≤ N) (he : e ≤ J) :
    farF ow bef room N e = J := by
  unfold farF
  rw [farI_split, Nat.zero_add]
  have k := farI_keep (ow := ow) (bef := bef) (room := room) (e := e) (J := J) (N := N) (fun i t a b c d => (h t b c).mp (h1 i t a b c d)) hJ he e 0 e (by lia) (Nat.le_refl _) he
  generalize farI ow bef room N e 0 e = f at k
  have q := farJ_eq h hJ (N - f) (f + 1) f (by lia) (by lia)
  by_cases hf : f + 1 ≤ J
  · exact q.1 hf
  · rw [q.2 (by lia)]; lia
end
end Mine
namespace Mine
open PySem PySem.W PyProof.Rows PySem.Calls
noncomputable section
structure Lay (sh : List Str) (ow bef : List Int) : Prop where
  owl : ow.length = sh.length
  bfs : ∀ j x, sh[j]? = some x → (bef[j + 1]?).getD 0 = (bef[j]?).getD 0 + (x.length : Int)
  own : ∀ j, j + 1 < sh.length → (ow[j + 1]?).getD 0 = (ow[j]?).getD 0 ∨ (ow[j + 1]?).getD 0 = (ow[j]?).getD 0 + 1
  pos : ∀ x ∈ sh, 1 ≤ x.length ∧ x.length ≤ 3
section
variable {sh : List Str} {ow bef : List Int} (Y : Lay sh ow bef)
include Y
theorem Lay.own_mono : ∀ (n i : Nat), i + n < sh.length → (ow[i]?).getD 0 ≤ (ow[i + n]?).getD 0
  | 0, i, _ => Int.le_refl _
  | n + 1, i, h => by
    have h1 := Lay.own_mono n i (by lia)
    have h2 := Y.own (i + n) (by lia)
    have e : i + (n + 1) = i + n + 1 := by lia
    rw [e]
    lia
theorem Lay.bef_mono : ∀ (n i : Nat), i + n ≤ sh.length → (bef[i]?).getD 0 ≤ (bef[i + n]?).getD 0
  | 0, i, _ => Int.le_refl _
  | n + 1, i, h => by
    have h1 := Lay.bef_mono n i (by lia)
    have h2 := Y.bfs (i + n) _ (List.getElem?_eq_getElem (by lia))
    have e : i + (n + 1) = i + n + 1 := by lia
    rw [e]
    lia
theorem Lay.cost_step {e t : Nat} (h1 : e < t) (h2 : t < sh.length) : costF ow bef e t < costF ow bef e (t + 1) := by
  obtain ⟨x, hx⟩ : ∃ x, sh[t]? = some x := ⟨_, List.getElem?_eq_getElem h2⟩
  have hb := Y.bfs t x hx
  have hp := Y.pos x (List.mem_of_getElem? hx)
  have ho := Y.own (t - 1) (by lia)
  have e1 : t - 1 + 1 = t := by lia
  rw [e1] at ho
  unfold costF
  have e2 : t + 1 - 1 = t := by lia
  rw [e2]
  lia
theorem Lay.cost_mono {e : Nat} : ∀ (n t : Nat), e < t → t + n ≤ sh.length → costF ow bef e t + n ≤ costF ow bef e (t + n)
  | 0, t, _, _ => by simp
  | n + 1, t, h1, h2 => by
    have a := Lay.cost_mono n t h1 (by lia)
    have b := Y.cost_step (e := e) (t := t + n) (by lia) (by lia)
    have e1 : t + (n + 1) = t + n + 1 := by lia
    rw [e1]
    lia
theorem Lay.cost_i {i e t : Nat} (h1 : i ≤ e) (h2 : e < t) (h3 : t ≤ sh.length) : costF ow bef e t ≤ costF ow bef i t := by
  have a := Y.own_mono (e - i) i (by lia)
  have b := Y.bef_mono (e - i) i (by lia)
  have e1 : i + (e - i) = e := by lia
  rw [e1] at a b
  unfold costF
  lia
theorem Lay.far {room : Int} {e J : Nat} (he : e < sh.length) (h1 : e ≤ J) (h2 : J ≤ sh.length) (hfit : e < J → costF ow bef e J ≤ room) (hmax : J < sh.length → room < costF ow bef e (J + 1)) :
    farF ow bef room sh.length e = J := by
  refine farF_eq (fun i t a b c d => Int.le_trans (Y.cost_i a b c) d) (fun t a b => ?_) h2 h1
  constructor
  · intro hc
    by_cases hlt : t ≤ J
    · exact hlt
    · exfalso
      have m := hmax (by lia)
      have k := Y.cost_mono (e := e) (t - (J + 1)) (J + 1) (by lia) (by lia)
      have e1 : J + 1 + (t - (J + 1)) = t := by lia
      rw [e1] at k
      lia
  · intro hle
    have m := hfit (by lia)
    have k := Y.cost_mono (e := e) (J - t) t a (by lia)
    have e1 : t + (J - t) = J := by lia
    rw [e1] at k
    lia
theorem Lay.getD_eq {j : Nat} (h : j + 1 < sh.length) : (ow[j + 1]? ≠ ow[j]?) ↔ (ow[j + 1]?).getD 0 = (ow[j]?).getD 0 + 1 := by
  have h0 := Y.own j h
  have a : ow[j + 1]? = some ((ow[j + 1]?).getD 0) := by rw [List.getElem?_eq_getElem (by rw [Y.owl]; lia)]; rfl
  have b : ow[j]? = some ((ow[j]?).getD 0) := by rw [List.getElem?_eq_getElem (by rw [Y.owl]; lia)]; rfl
  constructor
  · intro hne
    rcases h0 with h0 | h0
    · rw [a, b, h0] at hne; exact absurd rfl hne
    · exact h0
  · intro he hq
    rw [hq] at he
    lia
theorem Lay.ro_len : ∀ (n b : Nat), b + n < sh.length → ((ro sh ow b n).length : Int) + 1 = costF ow bef b (b + n + 1)
  | 0, b, h => by
    obtain ⟨x, hx⟩ : ∃ x, sh[b]? = some x := ⟨_, List.getElem?_eq_getElem (by lia)⟩
    have hb := Y.bfs b x hx
    rw [ro, hx, Str.length_append]
    unfold costF
    have e1 : b + 0 + 1 = b + 1 := by lia
    have e2 : b + 1 - 1 = b := by lia
    rw [e1, e2, hb]
    have e3 : (one 171).length = 1 := rfl
    simp only [Option.getD_some, e3]
    lia
  | n + 1, b, h => by
    obtain ⟨x, hx⟩ : ∃ x, sh[b + n + 1]? = some x := ⟨_, List.getElem?_eq_getElem (by lia)⟩
    have hb := Y.bfs (b + n + 1) x hx
    have ih := Lay.ro_len n b (by lia)
    have e0 : b + (n + 1) + 1 = b + n + 1 + 1 := by lia
    rw [ro, hx, Str.length_append, Str.length_append, e0]
    unfold costF at ih ⊢
    have e1 : b + n + 1 - 1 = b + n := by lia
    have e2 : b + n + 1 + 1 - 1 = b + n + 1 := by lia
    rw [e1] at ih
    rw [e2, hb]
    simp only [Option.getD_some]
    have hg := Y.getD_eq (j := b + n) (by lia)
    have ho := Y.own (b + n) (by lia)
    have l3 : (one 187 ++ Str.ofString " " ++ one 171).length = 3 := by decide +kernel
    have l0 : (Str.ofString "").length = 0 := rfl
    by_cases hw : ow[b + n + 1]? ≠ ow[b + n]?
    · rw [if_pos hw, l3]
      have := hg.mp hw
      lia
    · rw [if_neg hw, l0]
      have : ¬ (ow[b + n + 1]?).getD 0 = (ow[b + n]?).getD 0 + 1 := fun h => hw (hg.mpr h)
      lia
theorem Lay.rowF_len {b e : Nat} (h1 : b < e) (h2 : e ≤ sh.length) : ((rowF sh ow b e).length : Int) = costF ow bef b e := by
  have e1 : e = b + (e - b - 1) + 1 := by lia
  rw [e1, rowF_ro, Str.length_append, ← Y.ro_len (e - b - 1) b (by lia)]
  have e3 : (one 187).length = 1 := rfl
  rw [e3]
  lia
end
end
end Mine
namespace Mine
open PySem PySem.W PyProof.Rows PySem.Calls
noncomputable section
theorem befF_step : ∀ (sh : List Str) (s : Int) (j : Nat) (x : Str), sh[j]? = some x → ((s :: befF sh s)[j + 1]?).getD 0 = ((s :: befF sh s)[j]?).getD 0 + (x.length : Int)
  | [], _, j, x, h => by simp at h
  | y :: r, s, 0, x, h => by
    simp at h
    subst h
    simp [befF]
  | y :: r, s, j + 1, x, h => by
    have ih := befF_step r (s + y.length) j x (by simpa using h)
    simp only [befF, List.getElem?_cons_succ] at ih ⊢
    exact ih
theorem pics_len (m : Str) : (pics m).length = m.cps.size := by simp [pics]
theorem ownersF_get (pre : List Str) (m : Str) (post : List Str) : ∀ (j t : Nat), t < m.cps.size → (ownersF j (pre ++ m :: post))[(pre.flatMap pics).length + t]? = some ((j + pre.length : Nat) : Int) := by
  induction pre with
  | nil =>
    intro j t ht
    rw [List.nil_append, ownersF, List.flatMap_nil, List.length_nil, Nat.zero_add, List.getElem?_append_left (by simpa using ht), List.getElem?_replicate]
    simp [ht]
  | cons p pre ih =>
    intro j t ht
    rw [List.cons_append, ownersF, List.flatMap_cons, List.length_append, pics_len, List.getElem?_append_right (by simp; lia)]
    have e : p.cps.size + (pre.flatMap pics).length + t - (List.replicate p.cps.size (j : Int)).length = (pre.flatMap pics).length + t := by simp; lia
    rw [e, ih (j + 1) t ht, List.length_cons]
    congr 1
    have : j + 1 + pre.length = j + (pre.length + 1) := by lia
    rw [this]
theorem sh_get (pre : List Str) (m : Str) (post : List Str) {t c : Nat} (h : m.cps.toList[t]? = some c) : ((pre ++ m :: post).flatMap pics)[(pre.flatMap pics).length + t]? = some (shF c) := by
  have ht : t < m.cps.size := by
    have := (List.getElem?_eq_some_iff.mp h).1
    simpa using this
  rw [List.flatMap_append, List.getElem?_append_right (by lia), List.flatMap_cons, List.getElem?_append_left (by rw [pics_len]; lia)]
  have e : (pre.flatMap pics).length + t - (pre.flatMap pics).length = t := by lia
  rw [e, pics, List.getElem?_map, h]
  rfl
theorem ownersF_step : ∀ (ms : List Str) (j k : Nat), (∀ m ∈ ms, 0 < m.cps.size) → k + 1 < (ownersF j ms).length → ((ownersF j ms)[k + 1]?).getD 0 = ((ownersF j ms)[k]?).getD 0 ∨ ((ownersF j ms)[k + 1]?).getD 0 = ((ownersF j ms)[k]?).getD 0 + 1
  | [], j, k, _, h => by simp [ownersF] at h
  | m :: ms, j, k, hm, h => by
    rw [ownersF] at h ⊢
    by_cases h1 : k + 1 < m.cps.size
    · left
      rw [List.getElem?_append_left (by simpa using h1), List.getElem?_append_left (by simp; lia), List.getElem?_replicate, List.getElem?_replicate]
      simp [h1, show k < m.cps.size by lia]
    · by_cases h2 : k < m.cps.size
      · right
        have e : k + 1 = m.cps.size := by lia
        rw [List.getElem?_append_right (by simp; lia), List.getElem?_append_left (by simpa using h2), List.getElem?_replicate]
        simp only [h2, if_true, Option.getD_some]
        have e2 : k + 1 - (List.replicate m.cps.size (j : Int)).length = 0 := by simp; lia
        rw [e2]
        cases ms with
        | nil =>
          rw [List.length_append, List.length_replicate, ownersF, List.length_nil] at h
          lia
        | cons m2 ms =>
          have hp := hm m2 (List.mem_cons_of_mem _ (.head _))
          have := ownersF_get [] m2 ms (j + 1) 0 hp
          simp only [List.nil_append, List.flatMap_nil, List.length_nil, Nat.zero_add] at this
          rw [this]
          simp
      · rw [List.getElem?_append_right (by simp; lia), List.getElem?_append_right (by simp; lia)]
        have e : k + 1 - (List.replicate m.cps.size (j : Int)).length = (k - (List.replicate m.cps.size (j : Int)).length) + 1 := by simp; lia
        rw [e]
        refine ownersF_step ms (j + 1) _ (fun x hx => hm x (List.mem_cons_of_mem _ hx)) ?_
        rw [List.length_append, List.length_replicate] at h
        simp
        lia
theorem shF_pos : ∀ c : Fin 256, 1 ≤ (shF c).length ∧ (shF c).length ≤ 3 := by decide +kernel
theorem lay_msgs {msgs : List Str} (h1 : ∀ m ∈ msgs, 0 < m.cps.size) (h2 : ∀ m ∈ msgs, ∀ c ∈ m.cps.toList, c < 256) : Lay (shL msgs) (ownersF 0 msgs) (0 :: befF (shL msgs) 0) := by
  refine ⟨ownersF_len msgs 0, fun j x h => befF_step _ _ j x h, fun j h => ownersF_step msgs 0 j h1 (by rw [ownersF_len]; exact h), fun x hx => ?_⟩
  obtain ⟨m, hm, hx⟩ := List.mem_flatMap.mp hx
  obtain ⟨c, hc, rfl⟩ := List.mem_map.mp hx
  exact shF_pos ⟨c, h2 m hm c hc⟩
end
end Mine
namespace Mine
open PySem PySem.W PyProof.Rows PySem.Calls
noncomputable section
theorem catS_cons (x : Str) (r : List Str) : catS (x :: r) = x ++ catS r := rfl
theorem catS_nil : catS [] = Str.ofString "" := toL_inj rfl
theorem catS_app : ∀ (a b : List Str), catS (a ++ b) = catS a ++ catS b
  | [], b => by rw [catS_nil, empty_app]; rfl
  | x :: a, b => by rw [List.cons_append, catS_cons, catS_cons, catS_app a b, app_assoc]
noncomputable abbrev wrd (ps : List Str) : Str := one 171 ++ catS ps ++ one 187
theorem takeW_spec (room : Int) : ∀ (r : List Nat) (w : Str), ∃ n, n ≤ r.length ∧ takeW room w r = (w ++ catS ((r.take n).map unF), r.drop n) ∧ (0 < n → ((w ++ catS ((r.take n).map unF)).length : Int) + 2 ≤ room) ∧
    (∀ c, r[n]? = some c → room < ((w ++ catS ((r.take n).map unF)).length : Int) + (unF c).length + 2)
  | [], w => ⟨0, Nat.le_refl _, by rw [takeW]; simp [catS_nil, app_empty], fun h => absurd h (by lia), fun c h => by simp at h⟩
  | c :: r, w => by
    by_cases hc : (w.length : Int) + (unF c).length + 2 ≤ room
    · obtain ⟨n, h1, h2, h3, h4⟩ := takeW_spec room r (w ++ unF c)
      have e : w ++ unF c ++ catS ((r.take n).map unF) = w ++ catS (((c :: r).take (n + 1)).map unF) := by
        rw [List.take_succ_cons, List.map_cons, catS_cons, app_assoc]
      rw [e] at h2 h3 h4
      refine ⟨n + 1, by simp; lia, by rw [takeW, if_pos hc, h2]; rfl, fun _ => ?_, fun d hd => h4 d (by simpa using hd)⟩
      cases n with
      | zero =>
        rw [List.take_succ_cons, List.map_cons, catS_cons, Str.length_append, Str.length_append]
        have : (catS ((r.take 0).map unF)).length = 0 := rfl
        lia
      | succ n => exact h3 (by lia)
    · refine ⟨0, Nat.zero_le _, by rw [takeW, if_neg hc]; simp [catS_nil, app_empty], fun h => absurd h (by lia), fun d hd => ?_⟩
      simp at hd
      subst hd
      simp only [List.take_zero, List.map_nil, catS_nil, app_empty]
      lia
section
variable {sh : List Str} {ow : List Int}
theorem ro_ext {b : Nat} : ∀ (ps : List Str) (n : Nat), (∀ t p, ps[t]? = some p → sh[b + n + 1 + t]? = some p ∧ ow[b + n + 1 + t]? = ow[b + n]?) → ro sh ow b (n + ps.length) = ro sh ow b n ++ catS ps
  | [], n, _ => by rw [catS_nil, app_empty]; rfl
  | p :: ps, n, h => by
    obtain ⟨h1, h2⟩ := h 0 p rfl
    rw [Nat.add_zero] at h1 h2
    have e1 : ro sh ow b (n + 1) = ro sh ow b n ++ p := by
      rw [ro, h1, h2]
      simp [app_empty]
    have ih := ro_ext ps (n + 1) (fun t q hq => by
      obtain ⟨k1, k2⟩ := h (t + 1) q (by simpa using hq)
      have e : b + n + 1 + (t + 1) = b + (n + 1) + 1 + t := by lia
      rw [e] at k1 k2
      refine ⟨k1, k2.trans ?_⟩
      have e2 : b + (n + 1) = b + n + 1 := by lia
      rw [e2]; exact h2.symm)
    have e3 : n + (p :: ps).length = n + 1 + ps.length := by simp; lia
    rw [e3, ih, e1, catS_cons, app_assoc]
theorem rowF_fresh {b : Nat} {o : Int} {ps : List Str} (hne : ps ≠ []) (h : ∀ t p, ps[t]? = some p → sh[b + t]? = some p ∧ ow[b + t]? = some o) : rowF sh ow b (b + ps.length) = wrd ps := by
  cases ps with
  | nil => exact absurd rfl hne
  | cons p ps =>
    obtain ⟨h1, h2⟩ := h 0 p rfl
    rw [Nat.add_zero] at h1 h2
    have e := ro_ext (sh := sh) (ow := ow) (b := b) ps 0 (fun t q hq => by
      obtain ⟨k1, k2⟩ := h (t + 1) q (by simpa using hq)
      have e : b + (t + 1) = b + 0 + 1 + t := by lia
      rw [e] at k1 k2
      exact ⟨k1, by rw [k2, Nat.add_zero, h2]⟩)
    have e1 : b + (p :: ps).length = b + (0 + ps.length) + 1 := by simp; lia
    rw [e1, rowF_ro, e, ro, h1]
    show one 171 ++ p ++ catS ps ++ one 187 = one 171 ++ catS (p :: ps) ++ one 187
    rw [catS_cons, app_assoc (one 171)]
theorem rowF_next {b q : Nat} {o : Int} {ps : List Str} (hbq : b < q) (hne : ps ≠ []) (hq : ow[q]? ≠ ow[q - 1]?) (h : ∀ t p, ps[t]? = some p → sh[q + t]? = some p ∧ ow[q + t]? = some o) :
    rowF sh ow b (q + ps.length) = rowF sh ow b q ++ Str.ofString " " ++ wrd ps := by
  obtain ⟨n, rfl⟩ : ∃ n, q = b + n + 1 := ⟨q - b - 1, by lia⟩
  cases ps with
  | nil => exact absurd rfl hne
  | cons p ps =>
    obtain ⟨h1, h2⟩ := h 0 p rfl
    rw [Nat.add_zero] at h1 h2
    have e9 : b + n + 1 - 1 = b + n := by lia
    rw [e9] at hq
    have e := ro_ext (sh := sh) (ow := ow) (b := b) ps (n + 1) (fun t q hq => by
      obtain ⟨k1, k2⟩ := h (t + 1) q (by simpa using hq)
      have e : b + n + 1 + (t + 1) = b + (n + 1) + 1 + t := by lia
      rw [e] at k1 k2
      have e2 : b + (n + 1) = b + n + 1 := by lia
      exact ⟨k1, by rw [k2, e2, h2]⟩)
    have e1 : b + n + 1 + (p :: ps).length = b + (n + 1 + ps.length) + 1 := by simp; lia
    rw [e1, rowF_ro, rowF_ro, e, ro, h1, if_pos hq]
    show ro sh ow b n ++ (one 187 ++ Str.ofString " " ++ one 171) ++ p ++ catS ps ++ one 187 = ro sh ow b n ++ one 187 ++ Str.ofString " " ++ (one 171 ++ catS (p :: ps) ++ one 187)
    rw [catS_cons]
    simp only [app_assoc]
end
end
end Mine
namespace Mine
open PySem PySem.W PyProof.Rows PySem.Calls
noncomputable section
noncomputable def AtQ (sh : List Str) (ow : List Int) (q : Nat) (o : Int) (codes : List Nat) : Prop := ∀ t c, codes[t]? = some c → sh[q + t]? = some (unF c) ∧ ow[q + t]? = some o
theorem AtQ.drop {sh ow q o codes} (h : AtQ sh ow q o codes) (k : Nat) : AtQ sh ow (q + k) o (codes.drop k) := fun t c hc => by
  rw [List.getElem?_drop] at hc
  have := h (k + t) c hc
  rwa [← Nat.add_assoc] at this
theorem AtQ.words {sh ow q o codes} (h : AtQ sh ow q o codes) (n : Nat) : ∀ t p, ((codes.take n).map unF)[t]? = some p → sh[q + t]? = some p ∧ ow[q + t]? = some o := by
  intro t p hp
  rw [List.getElem?_map] at hp
  cases e : (codes.take n)[t]? with
  | none => rw [e] at hp; simp at hp
  | some c =>
    rw [e] at hp
    simp at hp
    subst hp
    refine h t c ?_
    rw [List.getElem?_take] at e
    split at e
    · exact e
    · simp at e
theorem unF_pos : ∀ c : Fin 256, 1 ≤ (unF c).length := by decide +kernel
theorem wrd_len (ps : List Str) : (wrd ps).length = (catS ps).length + 2 := by
  rw [wrd, Str.length_append, Str.length_append]
  show 1 + _ + 1 = _
  lia
theorem tell_some {ps : List Str} (h : 0 < (catS ps).length) : tell (Str.ofString "" ++ catS ps) = some (wrd ps) := by
  rw [empty_app]
  unfold tell
  rw [if_neg]
  intro e
  rw [e] at h
  exact absurd h (by decide)
theorem catS_pos {c : Nat} {r : List Nat} {n : Nat} (hn : 0 < n) (hc : c < 256) : 0 < (catS (((c :: r).take n).map unF)).length := by
  cases n with
  | zero => lia
  | succ n =>
    rw [List.take_succ_cons, List.map_cons, catS_cons, Str.length_append]
    have := unF_pos ⟨c, hc⟩
    simp only at this
    lia
section
variable {sh : List Str} {ow bef : List Int} (Y : Lay sh ow bef) {wd hd : Int} {ld : Str} (h5 : 5 ≤ wd - ld.length) {o : Int}
include Y h5
theorem rest_words : ∀ (fuel : Nat) (r : List Nat) (b : Nat), AtQ sh ow b o r → (∀ c ∈ r, c < 256) → r ≠ [] → r.length ≤ fuel → b + r.length ≤ sh.length →
    ∃ mid last b2, wordsT (wd - ld.length) fuel r = (mid ++ [last]).map some ∧ b ≤ b2 ∧ b2 < b + r.length ∧ last = rowF sh ow b2 (b + r.length) ∧ (last.length : Int) ≤ wd - ld.length ∧ mid.length ≤ r.length ∧ (∀ m ∈ mid, (m.length : Int) ≤ wd - ld.length) ∧
      (∀ rows out, rows ≠ [] → Due sh ow bef hd wd ld b2 (rows ++ mid.map fun m => ld ++ m) out → Due sh ow bef hd wd ld b rows out)
  | 0, r, b, _, _, hne, hl, _ => absurd (List.length_eq_zero_iff.mp (by lia)) hne
  | fuel + 1, [], b, _, _, hne, _, _ => absurd rfl hne
  | fuel + 1, c :: r, b, hA, h256, hne, hl, hN => by
    refine hideG fun Gq hGq => ?_
    obtain ⟨n, h1, h2, h3, h4⟩ := takeW_spec (wd - ld.length) (c :: r) (Str.ofString "")
    refine hGq ?_
    clear hGq Gq
    have hn : 0 < n := by
      rcases Nat.eq_zero_or_pos n with rfl | h
      · exfalso
        have := h4 c rfl
        have hu := unF_len c
        have e0 : (Str.ofString "" ++ catS (((c :: r).take 0).map unF)).length = 0 := rfl
        rw [e0] at this
        lia
      · exact h
    have hcp : 0 < (catS (((c :: r).take n).map unF)).length := catS_pos hn (h256 c (.head _))
    have hlen : (((c :: r).take n).map unF).length = n := by rw [List.length_map, List.length_take]; lia
    have hrow : rowF sh ow b (b + n) = wrd (((c :: r).take n).map unF) := by
      have := rowF_fresh (sh := sh) (ow := ow) (b := b) (o := o) (ps := ((c :: r).take n).map unF) (by intro e; rw [e] at hlen; simp at hlen; lia) (hA.words n)
      rwa [hlen] at this
    have h3' := h3 hn
    rw [empty_app] at h3'
    have hwl : ((wrd (((c :: r).take n).map unF)).length : Int) ≤ wd - ld.length := by rw [wrd_len]; lia
    have hw : wordsT (wd - ld.length) (fuel + 1) (c :: r) = some (wrd (((c :: r).take n).map unF)) :: wordsT (wd - ld.length) fuel ((c :: r).drop n) := by
      rw [wordsT, h2, tell_some hcp]
    by_cases hall : n = (c :: r).length
    · refine ⟨[], wrd (((c :: r).take n).map unF), b, ?_, Nat.le_refl _, by lia, by rw [← hall, hrow], hwl, by simp, by simp, fun rows out _ h => by simpa using h⟩
      rw [hw, hall, List.drop_length]
      cases fuel <;> rfl
    · have hlt : n < (c :: r).length := by lia
      have hd1 : (c :: r).drop n ≠ [] := by
        intro e
        have := congrArg List.length e
        rw [List.length_drop, List.length_nil] at this
        lia
      have hdl : ((c :: r).drop n).length = (c :: r).length - n := List.length_drop
      refine hideG fun Gq hGq => ?_
      obtain ⟨mid, last, b2, k1, k2, k3, k4, k5, k6, k7, k8⟩ := rest_words fuel ((c :: r).drop n) (b + n) (hA.drop n) (fun x hx => h256 x (List.mem_of_mem_drop hx)) hd1 (by lia) (by lia)
      refine hGq ?_
      clear hGq Gq
      have ee : b + n + ((c :: r).drop n).length = b + (c :: r).length := by lia
      refine ⟨wrd (((c :: r).take n).map unF) :: mid, last, b2, by rw [hw, k1]; rfl, by lia, by lia, by rw [k4, ee], k5, by rw [List.length_cons]; lia, ?_, ?_⟩
      · intro m hm
        rcases List.mem_cons.mp hm with rfl | hm
        · exact hwl
        · exact k7 m hm
      · intro rows out hrne hD
        obtain ⟨d, hd2⟩ : ∃ d, (c :: r)[n]? = some d := ⟨_, List.getElem?_eq_getElem hlt⟩
        have hmax := h4 d hd2
        rw [empty_app] at hmax
        have hrow2 : rowF sh ow b (b + (n + 1)) = wrd (((c :: r).take (n + 1)).map unF) := by
          have hl2 : (((c :: r).take (n + 1)).map unF).length = n + 1 := by rw [List.length_map, List.length_take]; lia
          have := rowF_fresh (sh := sh) (ow := ow) (b := b) (o := o) (ps := ((c :: r).take (n + 1)).map unF) (by intro e; rw [e] at hl2; simp at hl2) (hA.words (n + 1))
          rwa [hl2] at this
        have htk : (c :: r).take (n + 1) = (c :: r).take n ++ [d] := by
          rw [List.take_add_one, hd2]; rfl
        have hc1 := Y.rowF_len (b := b) (e := b + n) (by lia) (by lia)
        have hc2 := Y.rowF_len (b := b) (e := b + (n + 1)) (by lia) (by lia)
        rw [hrow, wrd_len] at hc1
        rw [hrow2, wrd_len, htk, List.map_append, catS_app, Str.length_append] at hc2
        have e1 : (catS ([d].map unF)).length = (unF d).length := by
          show (unF d ++ catS []).length = _
          rw [catS_nil, app_empty]
        rw [e1] at hc2
        have hfar := Y.far (room := wd - ld.length) (e := b) (J := b + n) (by lia) (by lia) (by lia) (fun _ => by lia) (fun _ => by
          have e2 : b + n + 1 = b + (n + 1) := by lia
          rw [e2]; lia)
        refine Due.step (far := b + n) (by lia) (by rw [if_neg hrne]; exact hfar.symm) (by lia) (by lia) ?_
        rw [if_neg hrne, hrow]
        refine k8 _ out (by simp) ?_
        have e3 : rows ++ List.map (fun m => ld ++ m) (wrd (((c :: r).take n).map unF) :: mid) = rows ++ [ld ++ wrd (((c :: r).take n).map unF)] ++ List.map (fun m => ld ++ m) mid := by simp
        rw [← e3]
        exact hD
end
end
end Mine
namespace Mine
open PySem PySem.W PyProof.Rows PySem.Calls
noncomputable section
theorem accStr_app (a b : List (Str × Str)) : accStr (a ++ b) = accStr a ++ accStr b := by
  unfold accStr; rw [List.map_append, catS_app]
theorem accStr_one (x y : Str) : accStr [(x, y)] = x ++ y := by
  show (x ++ y) ++ catS [] = _
  rw [catS_nil, app_empty]
theorem accStr_nil : accStr [] = Str.ofString "" := catS_nil
theorem accLen_str : ∀ l : List (Str × Str), accLen l = ((accStr l).length : Int)
  | [] => rfl
  | (x, y) :: l => by
    have e : accStr ((x, y) :: l) = x ++ y ++ accStr l := rfl
    have e2 : accLen ((x, y) :: l) = (x.length : Int) + y.length + accLen l := rfl
    rw [e, e2, accLen_str l, Str.length_append, Str.length_append]
    push_cast
    lia
theorem nlAcc_trans (l : List (Str × Str)) : nlAcc (l ++ [(Str.ofString " ", Str.ofString "")]) = l := by
  rw [nlAcc_snoc, if_pos ⟨rfl, rfl⟩]
theorem nlAcc_word (l : List (Str × Str)) (x y : Str) (h : 0 < y.length) : nlAcc (l ++ [(x, y)]) = l ++ [(x, y)] := by
  rw [nlAcc_snoc, if_neg]
  rintro ⟨_, h2⟩
  rw [h2] at h
  exact absurd h (by decide)
theorem notspace {x : Str} (h : 171 ∈ toL x) : Txt.isspace x = false := by
  have e : Unicode.isSpace 171 = false := by decide +kernel
  unfold Txt.isspace
  rw [Bool.and_eq_false_iff]
  right
  rw [← Array.all_toList, List.all_eq_false]
  exact ⟨171, h, by rw [e]; decide⟩
end
end Mine
namespace Mine
open PySem PySem.W PyProof.Rows PySem.Calls
noncomputable section
structure Inv (sh : List Str) (ow bef : List Int) (hd wd : Int) (ld : Str) (i q b : Nat) (ls : List Str) (l : List (Str × Str)) (init : Int) : Prop where
  zero : i = 0 → l = [] ∧ init = hd ∧ ls = [] ∧ b = 0 ∧ q = 0
  ini : init = if ls = [] then hd else 0
  row : 0 < i → b < q ∧ accStr l = (if ls = [] then Str.ofString "" else ld) ++ rowF sh ow b q ∧ init + accLen l ≤ wd ∧ nlAcc l = l
  due : ∀ out, Due sh ow bef hd wd ld b ls out → Due sh ow bef hd wd ld 0 [] out
  ln : l.length ≤ 2 * i
  ok : ∀ p ∈ l, p.1.length + p.2.length ≤ 100 ∧ PyData.strOk p.1 = true ∧ PyData.strOk p.2 = true
  lsl : ls.length ≤ 2 * q
noncomputable abbrev pfx (ls : List Str) (ld : Str) : Str := if ls = [] then Str.ofString "" else ld
section
variable {sh : List Str} {ow bef : List Int} {hd wd : Int} {ld : Str} {i q b : Nat} {ls : List Str} {l : List (Str × Str)} {init : Int} {o : Int} {codes : List Nat}
theorem Inv.room (I : Inv sh ow bef hd wd ld i q b ls l init) : wd - (if ls = [] then hd else (ld.length : Int)) = wd - (init + (pfx ls ld).length) := by
  rw [I.ini]
  unfold pfx
  split
  · have : (Str.ofString "").length = 0 := rfl
    rw [this]; simp
  · simp
theorem Inv.text (I : Inv sh ow bef hd wd ld i q b ls l init) (hA : AtQ sh ow q o codes) (hq : 0 < i → ow[q]? ≠ ow[q - 1]?) {J : Nat} (h0 : 0 < J) (hJ : J ≤ codes.length) :
    accStr (trA i l ++ [(Str.ofString "", wrd ((codes.take J).map unF))]) = pfx ls ld ++ rowF sh ow b (q + J) := by
  have hlen : ((codes.take J).map unF).length = J := by rw [List.length_map, List.length_take]; lia
  have hne : (codes.take J).map unF ≠ [] := by intro e; rw [e] at hlen; simp at hlen; lia
  rw [accStr_app, accStr_one, empty_app]
  by_cases hi : i = 0
  · obtain ⟨e1, e2, e3, e4, e5⟩ := I.zero hi
    subst e1 e3 e4 e5
    have := rowF_fresh (sh := sh) (ow := ow) (b := 0) (o := o) hne (hA.words J)
    rw [hlen] at this
    rw [this, pfx, if_pos rfl, empty_app, trA, if_pos hi, accStr_nil, empty_app]
  · obtain ⟨r1, r2, _, _⟩ := I.row (by lia)
    have := rowF_next (sh := sh) (ow := ow) (o := o) r1 hne (hq (by lia)) (hA.words J)
    rw [hlen] at this
    rw [this, trA, if_neg hi, accStr_app, accStr_one, app_empty, r2]
    simp only [app_assoc]
theorem Inv.fit (I : Inv sh ow bef hd wd ld i q b ls l init) (Y : Lay sh ow bef) (hA : AtQ sh ow q o codes) (hq : 0 < i → ow[q]? ≠ ow[q - 1]?) (hbq : b ≤ q) {J : Nat} (h0 : 0 < J) (hJ : J ≤ codes.length) (hN : q + codes.length ≤ sh.length) :
    init + accLen (trA i l) + ((catS ((codes.take J).map unF)).length : Int) + 2 = init + (pfx ls ld).length + costF ow bef b (q + J) := by
  have ht := congrArg Str.length (I.text hA hq h0 hJ)
  rw [accStr_app, accStr_one, empty_app, Str.length_append (accStr (trA i l)), wrd_len, Str.length_append (pfx ls ld)] at ht
  have hc := Y.rowF_len (b := b) (e := q + J) (by lia) (by lia)
  rw [accLen_str]
  lia
end
end
end Mine
namespace Mine
open PySem PySem.W PyProof.Rows PySem.Calls
noncomputable section
theorem strOk_all {x : Str} (h : ∀ c ∈ toL x, c < 256) : PyData.strOk x = true := by
  unfold PyData.strOk
  rw [← Array.all_toList, List.all_eq_true]
  intro c hc
  have := h c hc
  simp
  lia
theorem unF_codes : ∀ c : Fin 256, ∀ d ∈ toL (unF c), d < 256 ∧ d ≠ 10 := by decide +kernel
theorem catS_codes : ∀ (codes : List Nat), (∀ c ∈ codes, c < 256) → ∀ d ∈ toL (catS (codes.map unF)), d < 256 ∧ d ≠ 10
  | [], _, d, hd => by rw [List.map_nil, catS_nil, toL_empty] at hd; simp at hd
  | c :: r, h, d, hd => by
    rw [List.map_cons, catS_cons, toL_app, List.mem_append] at hd
    rcases hd with hd | hd
    · exact unF_codes ⟨c, h c (.head _)⟩ d hd
    · exact catS_codes r (fun x hx => h x (List.mem_cons_of_mem _ hx)) d hd
theorem mem_wrd {ps : List Str} {c : Nat} (h : c ∈ toL (wrd ps)) : c = 171 ∨ c = 187 ∨ c ∈ toL (catS ps) := by
  rw [wrd, toL_app, toL_app] at h
  simp only [List.mem_append, toL_one, List.mem_singleton] at h
  rcases h with (h | h) | h
  · exact .inl h
  · exact .inr (.inr h)
  · exact .inr (.inl h)
end
end Mine
namespace Mine
open PySem PySem.W PyProof.Rows PySem.Calls
noncomputable section
section
variable {sh : List Str} {ow bef : List Int} {hd wd : Int} {ld : Str} {i q b : Nat} {ls : List Str} {l : List (Str × Str)} {init : Int} {o : Int} {m : Str}
theorem Inv.bnd (I : Inv sh ow bef hd wd ld i q b ls l init) (h256 : ∀ c ∈ m.cps.toList, c < 256) (hne : m.cps.toList ≠ []) (hlen : m.length ≤ 500) (hi : i ≤ 40) (hhd : 0 ≤ hd ∧ hd ≤ 9) : FBnd i m l init := by
  have hl := I.ln
  refine ⟨h256, hlen, hne, ?_, ?_, ?_⟩
  · intro p hp
    unfold trA at hp
    split at hp
    · have := (I.ok p hp).1; lia
    · rcases List.mem_append.mp hp with hp | hp
      · have := (I.ok p hp).1; lia
      · rw [List.mem_singleton.mp hp]; decide +kernel
  · unfold trA
    split
    · lia
    · rw [List.length_append]; simp; lia
  · rw [I.ini]
    split <;> lia
theorem feed_fits (I : Inv sh ow bef hd wd ld i q b ls l init) (Y : Lay sh ow bef) (hA : AtQ sh ow q o m.cps.toList) (hq : 0 < i → ow[q]? ≠ ow[q - 1]?) (hbq : b ≤ q) (hN : q + m.cps.toList.length ≤ sh.length)
    (h256 : ∀ c ∈ m.cps.toList, c < 256) (hne : m.cps.toList ≠ []) (hlen : m.length ≤ 30) (hi : i ≤ 40) (hhd : 0 ≤ hd ∧ hd ≤ 9) (hwd : wd ≤ 19)
    (ht : takeW (wd - (init + accLen (trA i l))) (Str.ofString "") m.cps.toList = (Str.ofString "" ++ catS (m.cps.toList.map unF), [])) (hfit : ((catS (m.cps.toList.map unF)).length : Int) + 2 ≤ wd - (init + accLen (trA i l))) :
    Inv sh ow bef hd wd ld (i + 1) (q + m.cps.toList.length) b ls (trA i l ++ [(Str.ofString "", wrd (m.cps.toList.map unF))]) init ∧
    ∀ ms lsF lF iF, FeedRun wd ld lsF lF iF (i + 1) ms ls (trA i l ++ [(Str.ofString "", wrd (m.cps.toList.map unF))]) init → FeedRun wd ld lsF lF iF i (m :: ms) ls l init := by
  have hn : 0 < m.cps.toList.length := List.length_pos_iff.mpr hne
  have htext := I.text hA hq hn (Nat.le_refl _)
  rw [List.take_length] at htext
  have hB := I.bnd h256 hne (by lia) hi hhd
  have hcp : 0 < (catS (m.cps.toList.map unF)).length := by
    cases e : m.cps.toList with
    | nil => exact absurd e hne
    | cons c r =>
      have := catS_pos (c := c) (r := r) (n := r.length + 1) (by lia) (h256 c (by rw [e]; exact .head _))
      rwa [show (c :: r).take (r.length + 1) = c :: r from by rw [List.take_of_length_le (by simp)]] at this
  have hw2 : 0 < (wrd (m.cps.toList.map unF)).length := by rw [wrd_len]; lia
  have hal : accLen (trA i l ++ [(Str.ofString "", wrd (m.cps.toList.map unF))]) = accLen (trA i l) + ((catS (m.cps.toList.map unF)).length : Int) + 2 := by
    rw [accLen_str, accLen_str, accStr_app, accStr_one, empty_app, Str.length_append (accStr (trA i l)), wrd_len]
    lia
  have hok : PyData.strOk (wrd (m.cps.toList.map unF)) = true := strOk_all fun c hc => by
    rcases mem_wrd hc with h | h | h
    · lia
    · lia
    · exact (catS_codes _ h256 c h).1
  have hacc0 : 0 ≤ accLen (trA i l) := by rw [accLen_str]; lia
  have hini := hB.init
  refine ⟨⟨fun h => by lia, I.ini, fun _ => ⟨by lia, htext, by lia, nlAcc_word _ _ _ hw2⟩, I.due, ?_, ?_, by have := I.lsl; lia⟩, fun ms lsF lF iF h => .fits hB ?_ (by rw [wrd_len]; lia) (by lia) h⟩
  · have := I.ln
    unfold trA
    split
    · simp; lia
    · simp; lia
  · intro p hp
    rcases List.mem_append.mp hp with hp | hp
    · unfold trA at hp
      split at hp
      · exact I.ok p hp
      · rcases List.mem_append.mp hp with hp | hp
        · exact I.ok p hp
        · rw [List.mem_singleton.mp hp]; decide +kernel
    · rw [List.mem_singleton.mp hp]
      refine ⟨?_, show PyData.strOk (Str.ofString "") = true by decide +kernel, hok⟩
      show 0 + (wrd (m.cps.toList.map unF)).length ≤ 100
      rw [wrd_len]; lia
  · unfold wordsF
    rw [ht]
    simp only
    rw [tell_some hcp]
    cases m.cps.toList.length <;> rfl
end
end
end Mine
namespace Mine
open PySem PySem.W PyProof.Rows PySem.Calls
noncomputable section
theorem ro_mem {sh : List Str} {ow : List Int} {b : Nat} : ∀ n, 171 ∈ toL (ro sh ow b n)
  | 0 => by rw [ro, toL_app]; exact List.mem_append_left _ (List.mem_singleton.mpr rfl)
  | n + 1 => by rw [ro, toL_app, toL_app]; exact List.mem_append_left _ (List.mem_append_left _ (ro_mem n))
theorem rowF_mem {sh : List Str} {ow : List Int} {b e : Nat} (h : b < e) : 171 ∈ toL (rowF sh ow b e) := by
  obtain ⟨n, rfl⟩ : ∃ n, e = b + n + 1 := ⟨e - b - 1, by lia⟩
  rw [rowF_ro, toL_app]
  exact List.mem_append_left _ (ro_mem n)
theorem ro_codes {sh : List Str} {ow : List Int} {b : Nat} (h : ∀ x ∈ sh, ∀ d ∈ toL x, d < 256 ∧ d ≠ 10) : ∀ n, ∀ d ∈ toL (ro sh ow b n), d < 256 ∧ d ≠ 10 := by
  have hg : ∀ k : Nat, ∀ d ∈ toL ((sh[k]?).getD (Str.ofString "")), d < 256 ∧ d ≠ 10 := by
    intro k d hd
    cases e : sh[k]? with
    | none => rw [e] at hd; exact absurd hd (by simp [toL_empty])
    | some x => rw [e] at hd; exact h x (List.mem_of_getElem? e) d hd
  intro n
  induction n with
  | zero =>
    intro d hd
    rw [ro, toL_app, List.mem_append] at hd
    rcases hd with hd | hd
    · rw [toL_one, List.mem_singleton] at hd; lia
    · exact hg b d hd
  | succ n ih =>
    intro d hd
    rw [ro, toL_app, toL_app, List.mem_append, List.mem_append] at hd
    rcases hd with (hd | hd) | hd
    · exact ih d hd
    · have e3 : toL (one 187 ++ Str.ofString " " ++ one 171) = [187, 32, 171] := by decide +kernel
      split at hd
      · rw [e3] at hd; simp at hd; lia
      · rw [toL_empty] at hd; simp at hd
    · exact hg _ d hd
theorem rowF_codes {sh : List Str} {ow : List Int} {b e : Nat} (h : ∀ x ∈ sh, ∀ d ∈ toL x, d < 256 ∧ d ≠ 10) (hbe : b ≤ e) : ∀ d ∈ toL (rowF sh ow b e), d < 256 ∧ d ≠ 10 := by
  intro d hd
  by_cases he : b = e
  · rw [he, rowF_self, toL_empty] at hd; simp at hd
  · obtain ⟨n, rfl⟩ : ∃ n, e = b + n + 1 := ⟨e - b - 1, by lia⟩
    rw [rowF_ro, toL_app, List.mem_append] at hd
    rcases hd with hd | hd
    · exact ro_codes h n d hd
    · rw [toL_one, List.mem_singleton] at hd; lia
end
end Mine
namespace Mine
open PySem PySem.W PyProof.Rows PySem.Calls
noncomputable section
section
variable {sh : List Str} {ow bef : List Int} {hd wd : Int} {ld : Str} {i q b : Nat} {ls : List Str} {l : List (Str × Str)} {init : Int} {o : Int} {m : Str}
noncomputable def oW (n : Nat) (codes : List Nat) : Option Str := if n = 0 then none else some (wrd ((codes.take n).map unF))
theorem Inv.closed (I : Inv sh ow bef hd wd ld i q b ls l init) (hA : AtQ sh ow q o m.cps.toList) (hq : 0 < i → ow[q]? ≠ ow[q - 1]?) {n : Nat} (hn : n ≤ m.cps.toList.length) (h256 : ∀ c ∈ m.cps.toList, c < 256) :
    accStr (nlAcc (feedAcc (trA i l) (Str.ofString "") (oW n m.cps.toList))) = pfx ls ld ++ rowF sh ow b (q + n) := by
  by_cases h0 : n = 0
  · subst h0
    rw [oW, if_pos rfl]
    show accStr (nlAcc (trA i l)) = _
    by_cases hi : i = 0
    · obtain ⟨e1, e2, e3, e4, e5⟩ := I.zero hi
      subst e1 e3 e4 e5
      rw [trA, if_pos hi, nlAcc_nil, accStr_one, pfx, if_pos rfl, rowF_self]
    · obtain ⟨r1, r2, _, _⟩ := I.row (by lia)
      rw [trA, if_neg hi, nlAcc_trans, r2]
      rfl
  · rw [oW, if_neg h0]
    show accStr (nlAcc (trA i l ++ [(Str.ofString "", wrd ((m.cps.toList.take n).map unF))])) = _
    rw [nlAcc_word _ _ _ (by rw [wrd_len]; lia)]
    exact I.text hA hq (by lia) hn
theorem Inv.step (I : Inv sh ow bef hd wd ld i q b ls l init) (Y : Lay sh ow bef) (hA : AtQ sh ow q o m.cps.toList) (hq : 0 < i → ow[q]? ≠ ow[q - 1]?) (hbq : b ≤ q) (hN : q + m.cps.toList.length ≤ sh.length) {n : Nat} (hn : n < m.cps.toList.length)
    (hfit : 0 < n → ((catS ((m.cps.toList.take n).map unF)).length : Int) + 2 ≤ wd - (init + accLen (trA i l)))
    (hmax : ∀ c, m.cps.toList[n]? = some c → wd - (init + accLen (trA i l)) < ((catS ((m.cps.toList.take n).map unF)).length : Int) + (unF c).length + 2) :
    farF ow bef (wd - (if ls = [] then hd else (ld.length : Int))) sh.length b = q + n := by
  rw [I.room]
  obtain ⟨d, hd⟩ : ∃ d, m.cps.toList[n]? = some d := ⟨_, List.getElem?_eq_getElem hn⟩
  have hm := hmax d hd
  have htk : m.cps.toList.take (n + 1) = m.cps.toList.take n ++ [d] := by rw [List.take_add_one, hd]; rfl
  have f1 := I.fit Y hA hq hbq (J := n + 1) (by lia) (by lia) hN
  rw [htk, List.map_append, catS_app, Str.length_append] at f1
  have e1 : (catS ([d].map unF)).length = (unF d).length := by
    show (unF d ++ catS []).length = _
    rw [catS_nil, app_empty]
  rw [e1] at f1
  refine Y.far (by lia) (by lia) (by lia) (fun hlt => ?_) (fun _ => by
    have e2 : q + n + 1 = q + (n + 1) := by lia
    rw [e2]; lia)
  by_cases h0 : n = 0
  · subst h0
    by_cases hi : i = 0
    · obtain ⟨e1, e2, e3, e4, e5⟩ := I.zero hi
      lia
    · obtain ⟨r1, r2, r3, _⟩ := I.row (by lia)
      have hc := Y.rowF_len (b := b) (e := q) r1 (by lia)
      rw [accLen_str, r2, Str.length_append] at r3
      show costF ow bef b q ≤ _
      have e9 : (pfx ls ld).length = (if ls = [] then Str.ofString "" else ld).length := rfl
      lia
  · have f2 := I.fit Y hA hq hbq (J := n) (by lia) (by lia) hN
    have := hfit (by lia)
    lia
end
end
end Mine
namespace Mine
open PySem PySem.W PyProof.Rows PySem.Calls
noncomputable section
section
variable {sh : List Str} {ow bef : List Int} {hd wd : Int} {ld : Str} {i q b : Nat} {ls : List Str} {l : List (Str × Str)} {init : Int} {o : Int} {m : Str}
theorem feed_brk (I : Inv sh ow bef hd wd ld i q b ls l init) (Y : Lay sh ow bef) (hA : AtQ sh ow q o m.cps.toList) (hq : 0 < i → ow[q]? ≠ ow[q - 1]?) (hbq : b ≤ q) (hN : q + m.cps.toList.length ≤ sh.length) (hNN : sh.length ≤ 100) (hsh : ∀ x ∈ sh, ∀ d ∈ toL x, d < 256 ∧ d ≠ 10)
    (h256 : ∀ c ∈ m.cps.toList, c < 256) (hne : m.cps.toList ≠ []) (hlen : m.length ≤ 30) (hi : i ≤ 40) (hhd : 0 ≤ hd ∧ hd ≤ 9) (hwd : 8 ≤ wd ∧ wd ≤ 19) (h5 : 5 ≤ wd - ld.length) (hld : PyData.strOk ld = true) {n : Nat} (hn : n < m.cps.toList.length)
    (ht : takeW (wd - (init + accLen (trA i l))) (Str.ofString "") m.cps.toList = (Str.ofString "" ++ catS ((m.cps.toList.take n).map unF), m.cps.toList.drop n))
    (hfit : 0 < n → ((catS ((m.cps.toList.take n).map unF)).length : Int) + 2 ≤ wd - (init + accLen (trA i l)))
    (hmax : ∀ c, m.cps.toList[n]? = some c → wd - (init + accLen (trA i l)) < ((catS ((m.cps.toList.take n).map unF)).length : Int) + (unF c).length + 2) :
    ∃ b' ls' l' init', Inv sh ow bef hd wd ld (i + 1) (q + m.cps.toList.length) b' ls' l' init' ∧
    ∀ ms lsF lF iF, FeedRun wd ld lsF lF iF (i + 1) ms ls' l' init' → FeedRun wd ld lsF lF iF i (m :: ms) ls l init := by
  refine hideG fun G hG => ?_
  have hB := I.bnd h256 hne (by lia) hi hhd
  have hclosed := I.closed hA hq (n := n) (by lia) h256
  have hfar := I.step Y hA hq hbq hN hn hfit hmax
  have hd1 : m.cps.toList.drop n ≠ [] := by
    intro e
    have := congrArg List.length e
    rw [List.length_drop, List.length_nil] at this
    lia
  have hdl : (m.cps.toList.drop n).length = m.cps.toList.length - n := List.length_drop
  refine hideG fun Gq hGq => ?_
  obtain ⟨mid, last, b2, k1, k2, k3, k4, k5, k6, k7, k8⟩ := rest_words (hd := hd) Y h5 m.cps.toList.length (m.cps.toList.drop n) (q + n) (hA.drop n) (fun x hx => h256 x (List.mem_of_mem_drop hx)) hd1 (by lia) (by lia)
  refine hGq ?_
  clear hGq Gq
  have ee : q + n + (m.cps.toList.drop n).length = q + m.cps.toList.length := by lia
  rw [ee] at k3 k4
  have hini := hB.init
  have hacc0 : 0 ≤ accLen (trA i l) := by rw [accLen_str]; lia
  have hrowlen : rowF sh ow b (q + n) = rowF sh ow b (q + n) := rfl
  have hlastmem : 171 ∈ toL last := by rw [k4]; exact rowF_mem k3
  have hlastpos : 0 < last.length := by rw [toL_len]; exact List.length_pos_of_mem hlastmem
  have hlastok : PyData.strOk last = true := strOk_all fun c hc => by
    rw [k4] at hc
    exact (rowF_codes hsh (by lia) c hc).1
  have hls : ∀ x : List Str, ls ++ [pfx ls ld ++ rowF sh ow b (q + n)] ++ x ≠ [] := by intro x h; simp at h
  refine hG ⟨b2, ls ++ [pfx ls ld ++ rowF sh ow b (q + n)] ++ mid.map (fun m => ld ++ m), [(ld, last)], 0, ⟨fun h => by lia, by rw [if_neg (hls _)], fun _ => ⟨k3, ?_, ?_, ?_⟩, fun out hD => ?_, by simp; lia, ?_, ?_⟩, fun ms lsF lF iF h => ?_⟩
  · rw [if_neg (hls _), accStr_one, k4]
  · rw [accLen_str, accStr_one, Str.length_append]; lia
  · exact nlAcc_word [] _ _ hlastpos
  · refine I.due out (Due.step (far := q + n) (by lia) hfar.symm (by lia) (by lia) ?_)
    exact k8 _ out (by simp) hD
  · intro p hp
    rw [List.mem_singleton.mp hp]
    refine ⟨?_, hld, hlastok⟩
    show ld.length + last.length ≤ 100
    lia
  · have := I.lsl
    rw [List.length_append, List.length_append, List.length_map]
    simp only [List.length_singleton]
    lia
  · have hcase : b < q + n ∨ (n = 0 ∧ i = 0) := by
      by_cases h0 : n = 0
      · by_cases hi0 : i = 0
        · exact .inr ⟨h0, hi0⟩
        · left
          have := (I.row (by lia)).1
          lia
      · left; lia
    have hz : n = 0 → i = 0 → 0 < init := by
      intro h0 hi0
      subst h0
      obtain ⟨d, hd⟩ : ∃ d, m.cps.toList[0]? = some d := ⟨_, List.getElem?_eq_getElem hn⟩
      have h1 := hmax d hd
      have hu := unF_len d
      have e0 : (catS ((m.cps.toList.take 0).map unF)).length = 0 := rfl
      rw [e0] at h1
      have e1 : accLen (trA i l) = 0 := by
        rw [trA, if_pos hi0, (I.zero hi0).1]; rfl
      rw [e1] at h1
      lia
    have hcp : 0 < n → 0 < (catS ((m.cps.toList.take n).map unF)).length := by
      intro hp
      cases e : m.cps.toList with
      | nil => exact absurd e hne
      | cons c r => exact catS_pos hp (h256 c (by rw [e]; exact .head _))
    have hw9 : oW n m.cps.toList = none ∨ (0 < n ∧ oW n m.cps.toList = some (wrd ((m.cps.toList.take n).map unF))) := by
      by_cases h0 : n = 0
      · left; rw [oW, if_pos h0]
      · right; exact ⟨by lia, by rw [oW, if_neg h0]⟩
    have hwok : PyData.strOk (wrd ((m.cps.toList.take n).map unF)) = true := strOk_all fun c hc => by
      rcases mem_wrd hc with h | h | h
      · lia
      · lia
      · exact (catS_codes _ (fun x hx => h256 x (List.mem_of_mem_take hx)) c h).1
    have htrok : ∀ p ∈ trA i l, PyData.strOk p.1 = true ∧ PyData.strOk p.2 = true := by
      intro p hp
      unfold trA at hp
      split at hp
      · exact (I.ok p hp).2
      · rcases List.mem_append.mp hp with hp | hp
        · exact (I.ok p hp).2
        · rw [List.mem_singleton.mp hp]; decide +kernel
    refine .brk (o := oW n m.cps.toList) (mid := mid) (last := last) hB ?_ ?_ ?_ ?_ ?_ ?_ ?_ (by rw [hclosed]; exact h)
    · have e0 : tell (Str.ofString "" ++ catS ((m.cps.toList.take n).map unF)) = oW n m.cps.toList := by
        by_cases h0 : n = 0
        · subst h0; rfl
        · rw [oW, if_neg h0]; exact tell_some (hcp (by lia))
      unfold wordsF
      rw [ht]
      simp only
      rw [e0, k1]
    · intro w hw
      rcases hw9 with h9 | ⟨h9, h10⟩
      · rw [h9] at hw; cases hw
      · rw [h10] at hw
        have hf := hfit h9
        have := Option.some.inj hw
        subst this
        have hal : accLen (trA i l ++ [(Str.ofString "", wrd ((m.cps.toList.take n).map unF))]) = accLen (trA i l) + ((catS ((m.cps.toList.take n).map unF)).length : Int) + 2 := by
          rw [accLen_str, accLen_str, accStr_app, accStr_one, empty_app, Str.length_append (accStr (trA i l)), wrd_len]
          lia
        rw [wrd_len]
        lia
    · have := I.lsl
      lia
    · intro hi0
      rw [hclosed]
      refine notspace ?_
      rw [toL_app]
      refine List.mem_append_right _ (rowF_mem ?_)
      rcases hcase with h9 | ⟨h9, h10⟩
      · exact h9
      · have := hz h9 h10; lia
    · rcases hw9 with h9 | ⟨h9, h10⟩
      · rw [h9]; exact htrok
      · rw [h10]
        intro p hp
        rcases List.mem_append.mp hp with hp | hp
        · exact htrok p hp
        · rw [List.mem_singleton.mp hp]; exact ⟨show PyData.strOk (Str.ofString "") = true by decide +kernel, hwok⟩
    · intro x hx
      have := k7 x hx
      lia
    · rw [accLen_str, hclosed, Str.length_append]
      rcases hcase with h9 | ⟨h9, h10⟩
      · have := List.length_pos_of_mem (rowF_mem (sh := sh) (ow := ow) h9)
        rw [← toL_len] at this
        lia
      · have := hz h9 h10; lia
end
end
end Mine
namespace Mine
open PySem PySem.W PyProof.Rows PySem.Calls
noncomputable section
section
variable {sh : List Str} {ow bef : List Int} {hd wd : Int} {ld : Str} {i q b : Nat} {ls : List Str} {l : List (Str × Str)} {init : Int} {o : Int} {m : Str}
theorem feed_msg (I : Inv sh ow bef hd wd ld i q b ls l init) (Y : Lay sh ow bef) (hA : AtQ sh ow q o m.cps.toList) (hq : 0 < i → ow[q]? ≠ ow[q - 1]?) (hN : q + m.cps.toList.length ≤ sh.length) (hNN : sh.length ≤ 100) (hsh : ∀ x ∈ sh, ∀ d ∈ toL x, d < 256 ∧ d ≠ 10)
    (h256 : ∀ c ∈ m.cps.toList, c < 256) (hne : m.cps.toList ≠ []) (hlen : m.length ≤ 30) (hi : i ≤ 40) (hhd : 0 ≤ hd ∧ hd ≤ 9) (hwd : 8 ≤ wd ∧ wd ≤ 19) (h5 : 5 ≤ wd - ld.length) (hld : PyData.strOk ld = true) :
    ∃ b' ls' l' init', Inv sh ow bef hd wd ld (i + 1) (q + m.cps.toList.length) b' ls' l' init' ∧
    ∀ ms lsF lF iF, FeedRun wd ld lsF lF iF (i + 1) ms ls' l' init' → FeedRun wd ld lsF lF iF i (m :: ms) ls l init := by
  have hbq : b ≤ q := by
    by_cases hi0 : i = 0
    · obtain ⟨_, _, _, e4, e5⟩ := I.zero hi0; lia
    · have := (I.row (by lia)).1; lia
  refine hideG fun Gq hGq => ?_
  obtain ⟨n, h1, h2, h3, h4⟩ := takeW_spec (wd - (init + accLen (trA i l))) m.cps.toList (Str.ofString "")
  refine hGq ?_
  clear hGq Gq
  rw [empty_app] at h3 h4
  by_cases hall : n = m.cps.toList.length
  · have hn : 0 < n := by rw [hall]; exact List.length_pos_iff.mpr hne
    have h3' := h3 hn
    rw [hall, List.take_length] at h2 h3'
    rw [List.drop_length] at h2
    obtain ⟨hI, hF⟩ := feed_fits I Y hA hq hbq hN h256 hne hlen hi hhd hwd.2 h2 h3'
    exact ⟨_, _, _, _, hI, hF⟩
  · exact feed_brk I Y hA hq hbq hN hNN hsh h256 hne hlen hi hhd hwd h5 hld (by lia) h2 h3 h4
end
structure MsgOK (msgs : List Str) : Prop where
  ne : ∀ m ∈ msgs, m.cps.toList ≠ []
  codes : ∀ m ∈ msgs, ∀ c ∈ m.cps.toList, c < 256 ∧ c ≠ 33 ∧ c ≠ 94 ∧ c ≠ 161 ∧ c ≠ 222
  len : ∀ m ∈ msgs, m.length ≤ 30
  num : msgs.length ≤ 40
  pics : (shL msgs).length ≤ 20
section
variable {msgs : List Str}
theorem MsgOK.c256 (H : MsgOK msgs) : ∀ m ∈ msgs, ∀ c ∈ m.cps.toList, c < 256 := fun m hm c hc => (H.codes m hm c hc).1
theorem MsgOK.size (H : MsgOK msgs) : ∀ m ∈ msgs, 0 < m.cps.size := fun m hm => by
  have := List.length_pos_iff.mpr (H.ne m hm)
  simpa using this
theorem MsgOK.lay (H : MsgOK msgs) : Lay (shL msgs) (ownersF 0 msgs) (0 :: befF (shL msgs) 0) := lay_msgs H.size H.c256
theorem MsgOK.sh (H : MsgOK msgs) : ∀ x ∈ shL msgs, ∀ d ∈ toL x, d < 256 ∧ d ≠ 10 := by
  intro x hx
  refine hideG fun Gq hGq => ?_
  obtain ⟨m, hm, hx⟩ := List.mem_flatMap.mp hx
  obtain ⟨c, hc, rfl⟩ := List.mem_map.mp hx
  refine hGq ?_
  clear hGq Gq
  have := sh_un ⟨c, H.c256 m hm c hc⟩
  simp only at this
  rw [this]
  exact unF_codes ⟨c, H.c256 m hm c hc⟩
theorem MsgOK.atq (H : MsgOK msgs) {pre post : List Str} {m : Str} (e : msgs = pre ++ m :: post) : AtQ (shL msgs) (ownersF 0 msgs) (pre.flatMap Mine.pics).length ((0 + pre.length : Nat) : Int) m.cps.toList := by
  intro t c hc
  have hm : m ∈ msgs := by rw [e]; simp
  have ht : t < m.cps.size := by
    have := (List.getElem?_eq_some_iff.mp hc).1
    simpa using this
  have h256 := H.c256 m hm c (List.mem_of_getElem? hc)
  subst e
  exact ⟨(sh_get pre m post hc).trans (congrArg some (sh_un ⟨c, h256⟩)), ownersF_get pre m post 0 t ht⟩
theorem MsgOK.own (H : MsgOK msgs) {pre post : List Str} {m : Str} (e : msgs = pre ++ m :: post) (hp : 0 < pre.length) : (ownersF 0 msgs)[(pre.flatMap Mine.pics).length]? ≠ (ownersF 0 msgs)[(pre.flatMap Mine.pics).length - 1]? := by
  have hm : 0 < m.cps.size := H.size m (by rw [e]; simp)
  have h1 := ownersF_get pre m post 0 0 hm
  rw [← e, Nat.add_zero] at h1
  rcases List.eq_nil_or_concat pre with rfl | ⟨pre', p, hcon⟩
  · simp at hp
  · rw [List.concat_eq_append] at hcon
    subst hcon
    have hps : 0 < p.cps.size := H.size p (by rw [e]; simp)
    have h2 := ownersF_get pre' p (m :: post) 0 (p.cps.size - 1) (by lia)
    have e2 : pre' ++ p :: m :: post = msgs := by rw [e]; simp
    rw [e2] at h2
    have e3 : ((pre' ++ [p]).flatMap Mine.pics).length - 1 = (pre'.flatMap Mine.pics).length + (p.cps.size - 1) := by
      rw [List.flatMap_append, List.length_append, List.flatMap_cons, List.flatMap_nil, List.append_nil, pics_len]
      lia
    rw [h1, e3, h2]
    intro h
    have h := Option.some.inj h
    simp at h
    lia
end
section
variable {msgs : List Str} {hd wd : Int} {ld : Str}
theorem feed_all (H : MsgOK msgs) (hhd : 0 ≤ hd ∧ hd ≤ 9) (hwd : 8 ≤ wd ∧ wd ≤ 19) (h5 : 5 ≤ wd - ld.length) (hld : PyData.strOk ld = true) : ∀ (post pre : List Str), msgs = pre ++ post → ∀ b ls l init,
    Inv (shL msgs) (ownersF 0 msgs) (0 :: befF (shL msgs) 0) hd wd ld pre.length (pre.flatMap pics).length b ls l init →
    ∃ b' ls' l' init', Inv (shL msgs) (ownersF 0 msgs) (0 :: befF (shL msgs) 0) hd wd ld msgs.length (shL msgs).length b' ls' l' init' ∧ FeedRun wd ld ls' l' init' pre.length post ls l init
  | [], pre, e, b, ls, l, init, I => by
    rw [List.append_nil] at e
    subst e
    exact ⟨b, ls, l, init, I, .done⟩
  | m :: post, pre, e, b, ls, l, init, I => by
    have hm : m ∈ msgs := by rw [e]; simp
    have hnum := H.num
    have hpl : pre.length ≤ msgs.length := by rw [e]; simp
    have hN : (pre.flatMap pics).length + m.cps.toList.length ≤ (shL msgs).length := by
      rw [e, shL, List.flatMap_append, List.flatMap_cons, List.length_append, List.length_append, pics_len]
      simp
    refine hideG fun Gq hGq => ?_
    obtain ⟨b1, ls1, l1, init1, I1, F1⟩ := feed_msg I H.lay (H.atq e) (H.own e) hN (by have := H.pics; lia) H.sh (H.c256 m hm) (H.ne m hm) (H.len m hm) (by lia) hhd hwd h5 hld
    refine hGq ?_
    clear hGq Gq
    have e1 : pre.length + 1 = (pre ++ [m]).length := by simp
    have e2 : (pre.flatMap pics).length + m.cps.toList.length = ((pre ++ [m]).flatMap pics).length := by
      rw [List.flatMap_append, List.length_append, List.flatMap_cons, List.flatMap_nil, List.append_nil, pics_len]
      simp
    rw [e1, e2] at I1
    refine hideG fun Gq hGq => ?_
    obtain ⟨b2, ls2, l2, init2, I2, F2⟩ := feed_all H hhd hwd h5 hld post (pre ++ [m]) (by rw [e]; simp) b1 ls1 l1 init1 I1
    refine hGq ?_
    clear hGq Gq
    refine ⟨b2, ls2, l2, init2, I2, F1 _ _ _ _ ?_⟩
    rw [e1]
    exact F2
theorem inv0 {sh : List Str} {ow bef : List Int} : Inv sh ow bef hd wd ld 0 0 0 [] [] hd :=
  ⟨fun _ => ⟨rfl, rfl, rfl, rfl, rfl⟩, by simp, fun h => absurd h (by lia), fun _ h => h, by simp, fun p hp => absurd hp (by simp), by simp⟩
end
end
end Mine
namespace Mine
open PySem PySem.W PyProof.Rows PySem.Calls
noncomputable section
theorem cut10 : ∀ (a b A B : List Nat), 10 ∉ a → 10 ∉ b → a ++ 10 :: A = b ++ 10 :: B → a = b ∧ A = B
  | [], [], A, B, _, _, h => ⟨rfl, (List.cons.inj h).2⟩
  | [], y :: b, A, B, _, hb, h => absurd (List.cons.inj h).1 (fun e => hb (by rw [e]; exact .head _))
  | x :: a, [], A, B, ha, _, h => absurd (List.cons.inj h).1 (fun e => ha (by rw [← e]; exact .head _))
  | x :: a, y :: b, A, B, ha, hb, h => by
    obtain ⟨h1, h2⟩ := List.cons.inj h
    obtain ⟨h3, h4⟩ := cut10 a b A B (fun m => ha (List.mem_cons_of_mem _ m)) (fun m => hb (List.mem_cons_of_mem _ m)) h2
    exact ⟨by rw [h1, h3], h4⟩
noncomputable abbrev nl : Str := ⟨#[10]⟩
theorem join_two (x y : Str) (r : List Str) : toL (Str.join nl (x :: y :: r)) = toL x ++ 10 :: toL (Str.join nl (y :: r)) := by
  show toL (x ++ nl ++ Str.join nl (y :: r)) = _
  rw [toL_app, toL_app]
  show toL x ++ [10] ++ _ = _
  simp
theorem join_inj : ∀ (xs ys : List Str), xs ≠ [] → ys ≠ [] → (∀ x ∈ xs, 10 ∉ toL x) → (∀ y ∈ ys, 10 ∉ toL y) → toL (Str.join nl xs) = toL (Str.join nl ys) → xs = ys
  | [], _, h, _, _, _, _ => absurd rfl h
  | _ :: _, [], _, h, _, _, _ => absurd rfl h
  | [x], [y], _, _, _, _, h => by
    have : x = y := toL_inj h
    rw [this]
  | [x], y :: z :: r, _, _, hx, _, h => by
    rw [join_two] at h
    have h : toL x = toL y ++ 10 :: toL (Str.join nl (z :: r)) := h
    exact absurd (by rw [h]; simp) (hx x (.head _))
  | x :: z :: r, [y], _, _, _, hy, h => by
    rw [join_two] at h
    have h : toL x ++ 10 :: toL (Str.join nl (z :: r)) = toL y := h
    exact absurd (by rw [← h]; simp) (hy y (.head _))
  | x :: x2 :: r, y :: y2 :: q, _, _, hx, hy, h => by
    rw [join_two, join_two] at h
    obtain ⟨h1, h2⟩ := cut10 _ _ _ _ (hx x (.head _)) (hy y (.head _)) h
    rw [toL_inj h1, join_inj (x2 :: r) (y2 :: q) (by simp) (by simp) (fun a m => hx a (List.mem_cons_of_mem _ m)) (fun a m => hy a (List.mem_cons_of_mem _ m)) h2]
theorem split_join {rows : List Str} (h0 : rows ≠ []) (h : ∀ r ∈ rows, 10 ∉ toL r) : Txt.split (Txt.join (Str.ofString "\n") rows) (Str.ofString "\n") = rows := by
  have e : Str.ofString "\n" = nl := by decide +kernel
  rw [e]
  have ej : Txt.join nl rows = Str.join nl rows := StrLaws.glued_eq_join nl rows
  rw [ej]
  have h1 := StrLaws.join_split (Str.join nl rows) nl
  have h2 := StrLaws.split_free (Str.join nl rows) 10
  have h3 : Txt.split (Str.join nl rows) nl ≠ [] := by
    unfold Txt.split
    split
    · simp
    · split
      · simp
      · rw [StrLaws.partsBetween_eq]
        obtain ⟨p, r, e⟩ := StrLaws.partsFrom_ne (Str.join nl rows) nl.length 0 (PySem.Builtin.Str.occurrences (Str.join nl rows) nl 0 (Str.join nl rows).length ((Str.join nl rows).length + 1))
        rw [e]; simp
  exact join_inj _ _ h3 h0 h2 h (by rw [h1])
end
end Mine
namespace Mine
open PySem PySem.W PyProof.Rows PySem.Calls
noncomputable section
noncomputable def picOK (c : Nat) : Bool := match toL (shF c) with
  | [x] => decide (x ≠ 171 ∧ x ≠ 187 ∧ x ≠ 33 ∧ x ≠ 94 ∧ x < 256 ∧ x = c)
  | [x, y] => decide ((x = 94 ∧ y < 256 ∧ ctlOf y = c) ∨ (x = 33 ∧ y < 256 ∧ y ≠ 94 ∧ altOf y = c))
  | [x, y, z] => decide (x = 33 ∧ y = 94 ∧ z < 256 ∧ altOf (ctlOf z) = c)
  | _ => false
theorem pic_all : ∀ c : Fin 256, (c : Nat) ≠ 33 → (c : Nat) ≠ 94 → (c : Nat) ≠ 161 → (c : Nat) ≠ 222 → picOK c = true := by decide +kernel
theorem rd_pic {c : Nat} (h0 : c < 256) (h1 : c ≠ 33) (h2 : c ≠ 94) (h3 : c ≠ 161) (h4 : c ≠ 222) {r o : List Nat} (h : Rd true r o) : Rd true (toL (shF c) ++ r) (c :: o) := by
  have k := pic_all ⟨c, h0⟩ h1 h2 h3 h4
  simp only at k
  unfold picOK at k
  split at k
  · rename_i x e
    rw [e]
    obtain ⟨a1, a2, a3, a4, a5, rfl⟩ := of_decide_eq_true k
    exact .plain a1 a2 a3 a4 a5 h
  · rename_i x y e
    rw [e]
    rcases of_decide_eq_true k with ⟨rfl, a2, rfl⟩ | ⟨rfl, a2, a3, rfl⟩
    · exact .ctl a2 h
    · exact .hi a2 a3 h
  · rename_i x y z e
    rw [e]
    obtain ⟨rfl, rfl, a3, rfl⟩ := of_decide_eq_true k
    exact .hictl a3 h
  · exact absurd k (by decide)
theorem rd_lead : ∀ (l : List Nat) {r o : List Nat}, (∀ c ∈ l, c ≠ 171 ∧ c ≠ 187) → Rd false r o → Rd false (l ++ r) o
  | [], _, _, _, h => h
  | c :: l, _, _, hl, h => .out (hl c (.head _)).1 (hl c (.head _)).2 (rd_lead l (fun x hx => hl x (List.mem_cons_of_mem _ hx)) h)
noncomputable def Fair (c : Nat) : Prop := c < 256 ∧ c ≠ 33 ∧ c ≠ 94 ∧ c ≠ 161 ∧ c ≠ 222
section
variable {cs : List Nat} {ow : List Int}
theorem rd_ro (hf : ∀ c ∈ cs, Fair c) {b : Nat} : ∀ (n : Nat) {r o : List Nat}, b + n < cs.length → Rd true r o → Rd false (toL (ro (cs.map shF) ow b n) ++ r) ((cs.drop b).take (n + 1) ++ o)
  | 0, r, o, hn, h => by
    obtain ⟨c, hc⟩ : ∃ c, cs[b]? = some c := ⟨_, List.getElem?_eq_getElem (by lia)⟩
    obtain ⟨f0, f1, f2, f3, f4⟩ := hf c (List.mem_of_getElem? hc)
    have e1 : (cs.drop b).take (0 + 1) = [c] := by
      rw [List.take_add_one, List.getElem?_drop, Nat.add_zero, hc]; rfl
    rw [ro, List.getElem?_map, hc, e1, toL_app]
    exact .opn (rd_pic f0 f1 f2 f3 f4 h)
  | n + 1, r, o, hn, h => by
    obtain ⟨c, hc⟩ : ∃ c, cs[b + n + 1]? = some c := ⟨_, List.getElem?_eq_getElem (by lia)⟩
    obtain ⟨f0, f1, f2, f3, f4⟩ := hf c (List.mem_of_getElem? hc)
    have e1 : (cs.drop b).take (n + 1 + 1) = (cs.drop b).take (n + 1) ++ [c] := by
      rw [List.take_add_one, List.getElem?_drop, show b + (n + 1) = b + n + 1 by lia, hc]; rfl
    have hp := rd_pic f0 f1 f2 f3 f4 h
    rw [ro, List.getElem?_map, hc, e1, toL_app, toL_app, List.append_assoc, List.append_assoc, List.append_assoc]
    refine rd_ro hf n (by lia) ?_
    split
    · have e2 : toL (one 187 ++ Str.ofString " " ++ one 171) = [187, 32, 171] := by decide +kernel
      rw [e2]
      exact .cls (.out (by decide) (by decide) (.opn hp))
    · exact hp
theorem rd_row (hf : ∀ c ∈ cs, Fair c) {b e : Nat} (h1 : b ≤ e) (h2 : e ≤ cs.length) : Rd false (toL (rowF (cs.map shF) ow b e)) ((cs.drop b).take (e - b)) := by
  by_cases he : b = e
  · subst he
    rw [rowF_self, Nat.sub_self, List.take_zero]
    exact .nil
  · obtain ⟨n, rfl⟩ : ∃ n, e = b + n + 1 := ⟨e - b - 1, by lia⟩
    rw [rowF_ro, toL_app]
    have := rd_ro (ow := ow) hf (b := b) n (r := [187]) (o := []) (by lia) (.cls .nil)
    rw [List.append_nil] at this
    have e3 : b + n + 1 - b = n + 1 := by lia
    rw [e3]
    exact this
end
section
variable {sh : List Str} {ow : List Int}
theorem ro_short (hp : ∀ x ∈ sh, x.length ≤ 3) {b : Nat} : ∀ n, (ro sh ow b n).length ≤ 4 + 6 * n
  | 0 => by
    rw [ro, Str.length_append]
    have e : (one 171).length = 1 := rfl
    have : ((sh[b]?).getD (Str.ofString "")).length ≤ 3 := by
      cases h : sh[b]? with
      | none => decide +kernel
      | some x => exact hp x (List.mem_of_getElem? h)
    lia
  | n + 1 => by
    rw [ro, Str.length_append, Str.length_append]
    have ih := ro_short hp (b := b) n
    have h1 : ((sh[b + n + 1]?).getD (Str.ofString "")).length ≤ 3 := by
      cases h : sh[b + n + 1]? with
      | none => decide +kernel
      | some x => exact hp x (List.mem_of_getElem? h)
    have h2 : (if ow[b + n + 1]? ≠ ow[b + n]? then one 187 ++ Str.ofString " " ++ one 171 else Str.ofString "").length ≤ 3 := by
      split <;> decide +kernel
    lia
theorem rowF_short (hp : ∀ x ∈ sh, x.length ≤ 3) {b e : Nat} (h1 : b ≤ e) (h2 : e ≤ sh.length) (h3 : sh.length ≤ 100) : (rowF sh ow b e).length ≤ 700 := by
  by_cases he : b = e
  · subst he; rw [rowF_self]; decide +kernel
  · obtain ⟨n, rfl⟩ : ∃ n, e = b + n + 1 := ⟨e - b - 1, by lia⟩
    rw [rowF_ro, Str.length_append]
    have := ro_short (ow := ow) hp (b := b) n
    have e : (one 187).length = 1 := rfl
    lia
end
theorem all2_snoc {α β : Type} {R : α → β → Prop} {l : List α} {m : List β} {a : α} {b : β} (h : All2 R l m) (hab : R a b) : All2 R (l ++ [a]) (m ++ [b]) := by
  induction h with
  | nil => exact .cons hab .nil
  | cons h1 _ ih => exact .cons h1 ih
noncomputable def RowOK (r : Str) (o : List Nat) : Prop := r.length ≤ 800 ∧ (∀ d ∈ toL r, d < 256 ∧ d ≠ 10) ∧ Rd false (toL r) o
structure LeadOK (ld : Str) : Prop where
  len : ld.length ≤ 3
  codes : ∀ d ∈ toL ld, d < 256 ∧ d ≠ 10 ∧ d ≠ 171 ∧ d ≠ 187
theorem due_read {cs : List Nat} {sh : List Str} (esh : sh = cs.map shF) {ow bef : List Int} {hd wd : Int} {ld : Str} (hf : ∀ c ∈ cs, Fair c) (hp : ∀ x ∈ sh, x.length ≤ 3) (hc : ∀ x ∈ sh, ∀ d ∈ toL x, d < 256 ∧ d ≠ 10) (hN : sh.length ≤ 100) (hL : LeadOK ld) {e : Nat} {rows out : List Str} (D : Due sh ow bef hd wd ld e rows out) :
    ∀ outs, All2 RowOK rows outs → outs.flatten = cs.take e → ∃ outs', All2 RowOK out outs' ∧ outs'.flatten = cs := by
  induction D with
  | stop h =>
    intro outs h1 h2
    refine ⟨outs, h1, ?_⟩
    rw [h2, List.take_of_length_le]
    rw [esh, List.length_map] at h
    exact h
  | @step e rows far out h1 h2 h3 h4 _ ih =>
    intro outs h5 h6
    have hlen : sh.length = cs.length := by rw [esh, List.length_map]
    have hlead : ∀ d ∈ toL (if rows = [] then Str.ofString "" else ld), d < 256 ∧ d ≠ 10 ∧ d ≠ 171 ∧ d ≠ 187 := by
      intro d hd
      split at hd
      · rw [toL_empty] at hd; simp at hd
      · exact hL.codes d hd
    have hll : (if rows = [] then Str.ofString "" else ld).length ≤ 3 := by
      split
      · decide +kernel
      · exact hL.len
    refine ih (outs ++ [(cs.drop e).take (far - e)]) (all2_snoc h5 ⟨?_, ?_, ?_⟩) ?_
    · rw [Str.length_append]
      have := rowF_short (ow := ow) hp h3 h4 hN
      lia
    · intro d hd
      rw [toL_app, List.mem_append] at hd
      rcases hd with hd | hd
      · exact ⟨(hlead d hd).1, (hlead d hd).2.1⟩
      · exact rowF_codes hc h3 d hd
    · rw [toL_app]
      refine rd_lead _ (fun c hc => (hlead c hc).2.2) ?_
      rw [esh]
      exact rd_row hf h3 (by lia)
    · rw [List.flatten_append, h6, List.flatten_cons, List.flatten_nil, List.append_nil]
      have e9 : far = e + (far - e) := by lia
      conv => rhs; rw [e9, List.take_add]
end
end Mine
namespace Mine
open PySem PySem.W PyProof.Rows PySem.Calls
noncomputable section
theorem codeI_fair (n : Int) : Fair (codeI n).toNat := by
  have h0 : 0 ≤ (n.fdiv 3).fmod 256 := Int.fmod_nonneg_of_pos _ (by decide)
  have h1 : (n.fdiv 3).fmod 256 < 256 := Int.fmod_lt_of_pos _ (by decide)
  have key : ∀ x : Int, 0 ≤ x → x < 256 → Fair (if ([33, 94, 161, 222] : List Int).contains x then x + 1 else x).toNat := by
    intro x h0 h1
    unfold Fair
    by_cases hc : ([33, 94, 161, 222] : List Int).contains x = true
    · rw [if_pos hc]
      simp at hc
      lia
    · rw [if_neg hc]
      simp at hc
      lia
  exact key _ h0 h1
structure MI (p : List Str × Str) (n : Nat) : Prop where
  ne : ∀ m ∈ p.1, m.cps.toList ≠ []
  codes : ∀ m ∈ p.1, ∀ c ∈ m.cps.toList, Fair c
  cur : ∀ c ∈ toL p.2, Fair c
  num : (p.1.flatMap toL).length + (toL p.2).length = n
theorem mi_step {p : List Str × Str} {n : Nat} (H : MI p n) (x : Int) : MI (msgStep p x) (n + 1) := by
  have hf := codeI_fair x
  have e1 : toL (p.2 ++ sg x) = toL p.2 ++ [(codeI x).toNat] := by rw [toL_app]; rfl
  have hcur : ∀ c ∈ toL (p.2 ++ sg x), Fair c := by
    intro c hc
    rw [e1, List.mem_append, List.mem_singleton] at hc
    rcases hc with hc | rfl
    · exact H.cur c hc
    · exact hf
  have hn := H.num
  unfold msgStep
  split
  · refine ⟨fun m hm => ?_, fun m hm => ?_, fun c hc => ?_, ?_⟩
    · rcases List.mem_append.mp hm with hm | hm
      · exact H.ne m hm
      · rw [List.mem_singleton.mp hm]
        have e1' : (p.2 ++ sg x).cps.toList = toL p.2 ++ [(codeI x).toNat] := e1
        rw [e1']
        simp
    · rcases List.mem_append.mp hm with hm | hm
      · exact H.codes m hm
      · rw [List.mem_singleton.mp hm]
        exact hcur
    · simp only at hc
      rw [toL_empty] at hc
      simp at hc
    · simp only
      rw [List.flatMap_append, List.flatMap_cons, List.flatMap_nil, List.append_nil, List.length_append, e1, toL_empty, List.length_append]
      simp only [List.length_singleton, List.length_nil]
      lia
  · refine ⟨H.ne, H.codes, hcur, ?_⟩
    simp only
    rw [e1, List.length_append]
    simp only [List.length_singleton]
    lia
theorem mi_fold : ∀ (ns : List Int) {p : List Str × Str} {n : Nat}, MI p n → MI (ns.foldl msgStep p) (n + ns.length)
  | [], _, _, H => H
  | x :: ns, p, n, H => by
    have := mi_fold ns (mi_step H x)
    rw [List.foldl_cons, List.length_cons]
    have e : n + (ns.length + 1) = n + 1 + ns.length := by lia
    rw [e]; exact this
theorem mi_nil : MI ([], Str.ofString "") 0 := ⟨by simp, by simp, fun c hc => by simp only at hc; rw [toL_empty] at hc; simp at hc, rfl⟩
theorem flat_ge : ∀ (ms : List Str), (∀ m ∈ ms, m.cps.toList ≠ []) → ms.length ≤ (ms.flatMap toL).length
  | [], _ => Nat.le_refl _
  | m :: ms, h => by
    have ih := flat_ge ms (fun x hx => h x (List.mem_cons_of_mem _ hx))
    have := List.length_pos_iff.mpr (h m (.head _))
    have e : (toL m).length = m.cps.toList.length := rfl
    rw [List.flatMap_cons, List.length_append, List.length_cons]
    lia
theorem flat_le : ∀ (ms : List Str), ∀ m ∈ ms, m.length ≤ (ms.flatMap toL).length
  | [], m, h => by simp at h
  | a :: ms, m, h => by
    rw [List.flatMap_cons, List.length_append]
    rcases List.mem_cons.mp h with rfl | h
    · rw [toL_len]; lia
    · have := flat_le ms m h; lia
theorem flat_sum : ∀ (ms : List Str), (ms.map (·.length)).sum = (ms.flatMap toL).length
  | [] => rfl
  | a :: ms => by rw [List.map_cons, List.sum_cons, flat_sum ms, List.flatMap_cons, List.length_append, toL_len]
theorem shL_codes : ∀ (ms : List Str), shL ms = (ms.flatMap toL).map shF
  | [] => rfl
  | a :: ms => by
    have ih := shL_codes ms
    unfold shL at ih ⊢
    rw [List.flatMap_cons, ih, List.flatMap_cons, List.map_append]
    rfl
section
variable {s : List Int}
theorem msgs_mi (hs : s.length ≤ 63) : (∀ m ∈ msgsF (numF s), m.cps.toList ≠ []) ∧ (∀ m ∈ msgsF (numF s), ∀ c ∈ m.cps.toList, Fair c) ∧ ((msgsF (numF s)).flatMap toL).length ≤ 11 := by
  have H := mi_fold (numF s) mi_nil
  have h1 := H.num
  have h2 := numF_len hs
  refine ⟨H.ne, H.codes, ?_⟩
  unfold msgsF
  lia
theorem msgs_ne : msgsF (numF s) ≠ [] := by
  have e : numF s = (nineF s ++ [3 * totF s + 1]) ++ [96] := by unfold numF; simp
  unfold msgsF
  rw [e, List.foldl_append]
  generalize (nineF s ++ [3 * totF s + 1]).foldl msgStep ([], Str.ofString "") = p
  show (msgStep p 96).1 ≠ []
  have h96 : (96 : Int).fmod 3 = 0 := by decide
  unfold msgStep
  rw [if_pos h96]
  simp
theorem msgs_ok (hs : s.length ≤ 63) : MsgOK (msgsF (numF s)) := by
  obtain ⟨h1, h2, h3⟩ := msgs_mi hs
  refine ⟨h1, h2, fun m hm => ?_, ?_, ?_⟩
  · have := flat_le _ m hm; lia
  · have := flat_ge _ h1; lia
  · rw [shL_codes, List.length_map]; lia
theorem hdF_range (t : Int) : 0 ≤ hdF t ∧ hdF t ≤ 9 := by
  unfold hdF
  rcases fmod3 t with h | h | h <;> rw [h] <;> decide
theorem wdF_range (t : Int) : 8 ≤ wdF t ∧ wdF t ≤ 19 := by
  have h0 : 0 ≤ (t.fdiv 9).fmod 12 := Int.fmod_nonneg_of_pos _ (by decide)
  have h1 : (t.fdiv 9).fmod 12 < 12 := Int.fmod_lt_of_pos _ (by decide)
  unfold wdF
  lia
theorem ldF_lead (t : Int) : LeadOK (ldF t) := by
  refine ⟨ldF_len t, ?_⟩
  unfold ldF
  rcases fmod3 (t.fdiv 3) with h | h | h <;> rw [h] <;> decide +kernel
end
end
end Mine
namespace Mine
open PySem PySem.W PyProof.Rows PySem.Calls
noncomputable section
theorem sum_le {B : Nat} : ∀ (l : List Str), (∀ x ∈ l, x.length ≤ B) → (l.map (·.length)).sum ≤ l.length * B
  | [], _ => Nat.zero_le _
  | a :: l, h => by
    have ih := sum_le l (fun x hx => h x (List.mem_cons_of_mem _ hx))
    have := h a (.head _)
    rw [List.map_cons, List.sum_cons, List.length_cons, Nat.succ_mul]
    lia
theorem all2_mem {α β : Type} {R : α → β → Prop} {l : List α} {m : List β} (h : All2 R l m) : ∀ a ∈ l, ∃ b, R a b := by
  induction h with
  | nil => intro a ha; simp at ha
  | cons h1 _ ih =>
    intro x hx
    rcases List.mem_cons.mp hx with rfl | hx
    · exact ⟨_, h1⟩
    · exact ih x hx
theorem all2_len {α β : Type} {R : α → β → Prop} {l : List α} {m : List β} (h : All2 R l m) : l.length = m.length := by
  induction h with
  | nil => rfl
  | cons _ _ ih => simp [ih]
theorem catS_flat : ∀ ms : List Str, toL (catS ms) = ms.flatMap toL
  | [] => by rw [catS_nil, toL_empty]; rfl
  | a :: ms => by rw [catS_cons, toL_app, catS_flat ms, List.flatMap_cons]
theorem outs_flat : ∀ os : List (List Nat), (os.map fun o => (⟨o.toArray⟩ : Str)).flatMap toL = os.flatten
  | [] => rfl
  | o :: os => by rw [List.map_cons, List.flatMap_cons, outs_flat os, List.flatten_cons]; rfl
theorem law_ok {msgs : List Str} {hd wd : Int} {ld : Str} (s : List Int) (H : MsgOK msgs) (hne : msgs ≠ []) (hhd : 0 ≤ hd ∧ hd ≤ 9) (hwd : 8 ≤ wd ∧ wd ≤ 19) (hL : LeadOK ld) : ∃ rows outs, LawOK s msgs hd wd ld rows outs := by
  have h5 : 5 ≤ wd - ld.length := by have := hL.len; lia
  have hldok : PyData.strOk ld = true := strOk_all fun c hc => (hL.codes c hc).1
  refine hideG fun Gq hGq => ?_
  obtain ⟨b, ls, l, init, I, F⟩ := feed_all H hhd hwd h5 hldok msgs [] rfl 0 [] [] hd inv0
  have hM : 0 < msgs.length := List.length_pos_iff.mpr hne
  obtain ⟨r1, r2, r3, r4⟩ := I.row hM
  refine hGq ?_
  clear hGq Gq
  have hnum := H.num
  have hpics := H.pics
  have hN := H.lay
  have hln := I.ln
  have hlsl := I.lsl
  have hrow : accStr (nlAcc l) = pfx ls ld ++ rowF (shL msgs) (ownersF 0 msgs) b (shL msgs).length := by rw [r4]; exact r2
  have hpos : 0 < (rowF (shL msgs) (ownersF 0 msgs) b (shL msgs).length).length := by
    have := List.length_pos_of_mem (rowF_mem (sh := shL msgs) (ow := ownersF 0 msgs) r1)
    rw [← toL_len] at this
    exact this
  have hfar : farF (ownersF 0 msgs) (0 :: befF (shL msgs) 0) (wd - (if ls = [] then hd else (ld.length : Int))) (shL msgs).length b = (shL msgs).length := by
    rw [I.room]
    refine hN.far r1 (by lia) (Nat.le_refl _) (fun _ => ?_) (fun h => absurd h (by lia))
    have hc := hN.rowF_len (b := b) (e := (shL msgs).length) r1 (Nat.le_refl _)
    rw [accLen_str, r2, Str.length_append] at r3
    have e9 : (pfx ls ld).length = (if ls = [] then Str.ofString "" else ld).length := rfl
    lia
  have D : Due (shL msgs) (ownersF 0 msgs) (0 :: befF (shL msgs) 0) hd wd ld 0 [] (ls ++ [accStr (nlAcc l)]) := by
    refine I.due _ (Due.step (far := (shL msgs).length) r1 hfar.symm (by lia) (Nat.le_refl _) ?_)
    rw [hrow]
    exact .stop (Nat.le_refl _)
  have hf : ∀ c ∈ msgs.flatMap toL, Fair c := by
    intro c hc
    obtain ⟨m, hm, hc⟩ := List.mem_flatMap.mp hc
    exact H.codes m hm c hc
  obtain ⟨outs, A, hfl⟩ := due_read (shL_codes msgs) hf (fun x hx => (hN.pos x hx).2) H.sh (by lia) hL D [] .nil rfl
  have hrl : (ls ++ [accStr (nlAcc l)]).length ≤ 41 := by rw [List.length_append, List.length_singleton]; lia
  have hro := all2_mem A
  have hlen := all2_len A
  have hsum := sum_le (B := 800) (ls ++ [accStr (nlAcc l)]) (fun x hx => (hro x hx).elim fun _ h => h.1)
  have hsum2 : (ls ++ [accStr (nlAcc l)]).length * 800 ≤ 41 * 800 := Nat.mul_le_mul_right _ hrl
  have hcodes : (msgs.flatMap toL).length ≤ 20 := by
    have := hpics
    rw [shL_codes, List.length_map] at this
    exact this
  have hini : 0 ≤ init ∧ init ≤ 1000 := by
    rw [I.ini]
    split <;> lia
  refine ⟨ls ++ [accStr (nlAcc l)], outs, ⟨⟨ls, l, init, F, ⟨?_, by lia, hini, by lia, fun _ => ?_, fun p hp => (I.ok p hp).2, ?_, by lia, ?_⟩, ?_⟩, h5, D, ?_, by lia, by lia, H.c256, by lia, ?_, ?_, ?_, ?_⟩⟩
  · intro p hp
    have := (I.ok p hp).1
    lia
  · rw [hrow]
    refine notspace ?_
    rw [toL_app]
    exact List.mem_append_right _ (rowF_mem r1)
  · rw [accLen_str, hrow, Str.length_append]
    lia
  · have ej : Txt.join (Str.ofString "\n") (ls ++ [accStr (nlAcc l)]) = Str.join (Str.ofString "\n") (ls ++ [accStr (nlAcc l)]) := StrLaws.glued_eq_join _ _
    have e1 : (Str.ofString "\n").length = 1 := by decide +kernel
    have := StrLaws.join_length_le (Str.ofString "\n") (ls ++ [accStr (nlAcc l)])
    rw [ej]
    rw [e1] at this
    lia
  · exact split_join (by simp) fun r hr hm => by
      obtain ⟨o, ho⟩ := hro r hr
      exact (ho.2.1 10 hm).2 rfl
  · rw [List.all_eq_true]
    intro o ho
    refine hideG fun Gq hGq => ?_
    obtain ⟨r, hr, rfl⟩ := List.mem_map.mp ho
    obtain ⟨o, ho⟩ := hro r hr
    refine hGq ?_
    clear hGq Gq
    exact strOk_all fun c hc => (ho.2.1 c hc).1
  · exact A.mono fun r o h => ⟨by have := h.1; lia, h.2.2⟩
  · rw [join_catS, join_catS]
    refine toL_inj ?_
    rw [catS_flat, catS_flat, outs_flat, hfl]
  · have e := flat_sum (outs.map fun o => (⟨o.toArray⟩ : Str))
    rw [outs_flat, hfl] at e
    rw [e]
    lia
  · have e := flat_sum msgs
    rw [e]
    lia
theorem law_ok_all {s : List Int} (hs : s.length ≤ 63) : ∃ rows outs, LawOK s (msgsF (numF s)) (hdF (totF s)) (wdF (totF s)) (ldF (totF s)) rows outs :=
  law_ok s (msgs_ok hs) msgs_ne (hdF_range _) (wdF_range _) (ldF_lead _)
end
end Mine
namespace Mine
open PySem PySem.W PyProof.Rows PySem.Calls
noncomputable section
theorem fn284 (P) : Fn P 284 (scA 284) (bodyA 284) ["script"] := by
  refine ⟨⟨_, _, _, rfl⟩, by decide, ⟨_, _, _, _, rfl, by decide, rfl, rfl, rfl⟩, rfl, rfl, by decide, by decide, rfl, rfl, rfl, rfl, rfl, by decide, pureB (len1 (fun _ => by kernel_rfl))⟩
theorem body284 : bodyA 284 = stL 0 :: stL 1 :: stL 2 :: stL 3 :: stL 4 :: stL 5 :: stL 6 :: stL 7 :: stL 8 :: stL 9 :: stL 10 :: stL 11 :: stL 12 :: [] := by kernel_rfl
noncomputable def isLst (o : Obj) : Bool := match o.cls with
  | .type n => n == "list"
  | _ => false
theorem noList (P : Params) : ((Kx P).all fun p => !isLst p.2) = true := by kernel_rfl
theorem mem_lookup {a : Addr} {o : Obj} : ∀ {l : List (Addr × Obj)}, l.lookup a = some o → (a, o) ∈ l
  | [], h => by simp at h
  | (b, u) :: l, h => by
    rw [List.lookup_cons] at h
    by_cases hb : (a == b) = true
    · simp only [hb] at h
      rw [beq_iff_eq.mp hb, Option.some.inj h]
      exact .head _
    · have hb' : (a == b) = false := by simpa using hb
      simp only [hb'] at h
      exact .tail _ (mem_lookup h)
theorem notLst {P : Params} {a : Addr} {o : Obj} (h : (Kx P).lookup a = some o) : isLst o = false := by
  have := List.all_eq_true.mp (noList P) _ (mem_lookup h)
  simpa using this
theorem tab_empty (P : Params) : ∀ b ∈ tabs, (Kx P).lookup b = some ⟨.none, none, .fields #[], #[]⟩ := by
  intro b hb
  simp only [tabs, List.mem_cons, List.not_mem_nil, or_false] at hb
  rcases hb with rfl | rfl | rfl <;> rfl
theorem tab_code (P : Params) : ∀ b ∈ tabs, ∃ cc o vs, (Kx P).lookup cc = some o ∧ o.cls = .type "code" ∧ o.data = .fields vs ∧ vs[11]? = some (.ref b) := by
  intro b hb
  simp only [tabs, List.mem_cons, List.not_mem_nil, or_false] at hb
  rcases hb with rfl | rfl | rfl
  · obtain ⟨c, h1, h2⟩ := code253 P
    exact ⟨252, _, _, rfl, rfl, rfl, rfl⟩
  · exact ⟨159, _, _, rfl, rfl, rfl, rfl⟩
  · exact ⟨166, _, _, rfl, rfl, rfl, rfl⟩
section
variable {w : World} {s₁ : Shared} {mg mb : Str → Option Value} {la : Addr} {vs : List Value} {s : List Int}
theorem ns_hide {h : Heap} {a : Addr} {m : Str → Option Value} {its : Array Value} (n : h.Ns a m) (hL : h.IsList la its) : (h.hide la).Ns a m := by
  refine hideG fun Gq hGq => ?_
  obtain ⟨o, es, ep, ho, hd, r⟩ := n
  refine hGq ?_
  clear hGq Gq
  refine ⟨o, es, ep, (Heap.hide_ne h ?_).trans ho, hd, r⟩
  rintro rfl
  refine hideG fun Gq hGq => ?_
  obtain ⟨o', ho', _, n, hd'⟩ := hL
  refine hGq ?_
  clear hGq Gq
  rw [ho] at ho'
  cases ho'
  rw [hd] at hd'
  cases hd'
noncomputable def bsOf (KX : (Kx w.params).In s₁.heap) (ng : s₁.heap.Ns mainGlobals mg) (nb : s₁.heap.Ns builtinsNs mb) (hb : ∀ x : Str, x ≠ "__name__" → mb x = bootBuiltins x) (lim : s₁.heap.NoLimit) (hL : s₁.heap.IsList la vs.toArray) : Bs w where
  h := s₁.heap.hide la
  os := s₁.os
  mg := mg
  mb := mb
  K := fun a o e => by
    refine (Heap.hide_ne _ ?_).trans (KX a o e)
    rintro rfl
    refine hideG fun Gq hGq => ?_
    obtain ⟨o', ho', hc, _⟩ := hL
    refine hGq ?_
    clear hGq Gq
    rw [KX a o e] at ho'
    cases ho'
    have := notLst e
    unfold isLst at this
    rw [hc] at this
    exact absurd this (by decide +kernel)
  ng := ns_hide ng hL
  nb := ns_hide nb hL
  hb := hb
  lim := let ⟨mc, n, e⟩ := lim; ⟨mc, ns_hide n hL, e⟩
noncomputable def cx0 (B : Bs w) (a L : Addr) : Cx w := ⟨B, callerA.deeper (callEnv (fdOf w.params a) L a), fdOf w.params a, a, L, [], [], []⟩
theorem cx0_ok {a : Addr} {sc : Scope} {body : List Stmt} {names : List Str} (F : Fn w.params a sc body names) (B : Bs w) (L : Addr) : (cx0 B a L).OK 17 sc where
  hsc := F.scp
  kind := F.kind
  glob := F.glob
  blt := F.blt
  hd := rfl
  fr := rfl
  depth := by show 301 + 1 + 17 ≤ 800; lia
  units := by show 4 + 3 + 20 * 17 ≤ 9000; lia
  out := fun e he => absurd he (List.not_mem_nil)
theorem la_tab (KX : (Kx w.params).In s₁.heap) (hL : s₁.heap.IsList la vs.toArray) : la ∉ tabs := by
  intro hb
  refine hideG fun Gq hGq => ?_
  obtain ⟨o', ho', hc, _⟩ := hL
  refine hGq ?_
  clear hGq Gq
  rw [KX _ _ (tab_empty _ la hb)] at ho'
  cases ho'
  cases hc
theorem rep0 (KX : (Kx w.params).In s₁.heap) (ng : s₁.heap.Ns mainGlobals mg) (nb : s₁.heap.Ns builtinsNs mb) (hb : ∀ x : Str, x ≠ "__name__" → mb x = bootBuiltins x) (lim : s₁.heap.NoLimit) (hL : s₁.heap.IsList la vs.toArray) (hg : s₁.gens = #[])
    {a : Addr} {ol : Obj} (hol : s₁.heap.get? la = some ol) {h0 : Heap} {m : Str → Option Value} (hns : h0.Ns s₁.heap.objs.size m) (hm : m (Str.ofString "script") = some (.ref la)) (hk : ∀ b o, s₁.heap.get? b = some o → h0.get? b = some o) (tk : Tok) :
    Rep (cx0 (bsOf KX ng nb hb lim hL) a s₁.heap.objs.size) [[la]] [(Str.ofString "script", .obj 0)] [.fix ol] { s₁ with heap := h0, toks := tk } where
  stat := ⟨fun b o e n => hk _ _ (Heap.of_hide e), fun b hb => ⟨#[], hk _ _ (KX _ _ (tab_empty _ b hb)), trivial⟩, .of_eq hg, rfl⟩
  fr := ⟨m, hns, fun x v e => by
    rw [List.lookup_cons, List.lookup_nil] at e
    by_cases hx : (x == Str.ofString "script") = true
    · rw [hx] at e
      cases e
      rw [eq_of_beq hx]
      exact ⟨.ref la, hm, la, [], rfl, rfl⟩
    · have hx' : (x == Str.ofString "script") = false := by simpa using hx
      rw [hx'] at e
      cases e⟩
  frs := fun p hp => absurd hp (List.not_mem_nil)
  frz := fun p hp => absurd hp (List.not_mem_nil)
  len := rfl
  cells := fun i ac as hi ha => by
    cases i with
    | zero =>
      cases hi
      cases ha
      exact ⟨la, rfl, hk _ _ hol⟩
    | succ i => simp at hi
  apart := by
    have hla : la < s₁.heap.objs.size := Heap.lt_size hol
    show [s₁.heap.objs.size, la].Nodup
    refine List.nodup_cons.mpr ⟨fun h => ?_, List.nodup_cons.mpr ⟨List.not_mem_nil, List.nodup_nil⟩⟩
    exact absurd hla (by rw [← List.mem_singleton.mp h]; exact Nat.lt_irrefl _)
  fresh := fun a ha => by
    have ha : a ∈ [s₁.heap.objs.size, la] := ha
    simp only [List.mem_cons, List.not_mem_nil, or_false] at ha
    rcases ha with rfl | rfl
    · refine ⟨?_, fun hb => ?_⟩
      · show (s₁.heap.hide la).get? s₁.heap.objs.size = none
        cases e : (s₁.heap.hide la).get? s₁.heap.objs.size with
        | none => rfl
        | some o => exact absurd (Heap.lt_size (Heap.of_hide e)) (Nat.lt_irrefl _)
      · exact absurd (Heap.lt_size (KX _ _ (tab_empty _ _ hb))) (Nat.lt_irrefl _)
    · exact ⟨Heap.hide_self _ _, la_tab KX hL⟩
theorem end0 (KX : (Kx w.params).In s₁.heap) (ng : s₁.heap.Ns mainGlobals mg) (nb : s₁.heap.Ns builtinsNs mb) (hb : ∀ x : Str, x ≠ "__name__" → mb x = bootBuiltins x) (lim : s₁.heap.NoLimit) (hL : s₁.heap.IsList la vs.toArray)
    {ol : Obj} (hol : s₁.heap.get? la = some ol) {a₀ L : Addr} {loc' : Locs} {cs' : List AC} {s' : Shared} {ρ' : List (List Addr)} (hp : [[la]] <+: ρ') (h0 : cs'[0]? = some (.fix ol)) (R : Rep (cx0 (bsOf KX ng nb hb lim hL) a₀ L) ρ' loc' cs' s') : OldK s₁.heap s'.heap := by
  obtain ⟨a, ha, hla⟩ := R.cells 0 _ _ h0 (prefix_get hp rfl)
  cases ha
  have kept : ∀ b o, s₁.heap.get? b = some o → b ∉ tabs → s'.heap.get? b = some o := fun b o e n => by
    by_cases hbl : b = la
    · subst hbl
      rw [hol] at e
      cases e
      exact hla
    · exact R.stat.keep b o ((Heap.hide_ne _ hbl).trans e) n
  refine ⟨fun b o e => ?_, fun b o e => ?_⟩
  · by_cases hb : b ∈ tabs
    · right; left
      have e2 := KX _ _ (tab_empty _ b hb)
      rw [e] at e2
      cases e2
      refine hideG fun Gq hGq => ?_
      obtain ⟨ps, hps, _⟩ := R.stat.tab b hb
      obtain ⟨cc, oc, cvs, q1, q2, q3, q4⟩ := tab_code w.params b hb
      refine hGq ?_
      clear hGq Gq
      exact ⟨⟨cc, oc, cvs, KX _ _ q1, q2, q3, q4⟩, rfl, #[], ps, rfl, by rw [Array.empty_append]; exact hps⟩
    · exact .inl (kept b o e hb)
  · by_cases hb : b ∈ tabs
    · obtain ⟨ps, hps, _⟩ := R.stat.tab b hb
      exact ⟨_, hps⟩
    · exact ⟨_, kept b o e hb⟩
theorem argOK_of {ol : Obj} (hol : s₁.heap.get? la = some ol) (hL : s₁.heap.IsList la vs.toArray) (hI : IntsAre vs s) : ArgOK ol s := by
  refine hideG fun Gq hGq => ?_
  obtain ⟨o', ho', hc, n, hd⟩ := hL
  refine hGq ?_
  clear hGq Gq
  rw [hol] at ho'
  cases ho'
  refine hideG fun Gq hGq => ?_
  obtain ⟨c, d, dt, sl⟩ := ol
  refine hGq ?_
  clear hGq Gq
  simp only at hc hd
  subst hc hd
  exact ⟨d, vs, n, sl, rfl, hI⟩
theorem join_fn {a : Addr} {sc : Scope} {body : List Stmt} {ol : Obj} {cs' : List AC} {loc' : Locs} (KX : (Kx w.params).In s₁.heap) (ng : s₁.heap.Ns mainGlobals mg) (nb : s₁.heap.Ns builtinsNs mb) (hb : ∀ x : Str, x ≠ "__name__" → mb x = bootBuiltins x) (lim : s₁.heap.NoLimit) (hg : s₁.gens = #[]) (hL : s₁.heap.IsList la vs.toArray)
    (hol : s₁.heap.get? la = some ol) (FP : Fn w.params a sc body [Str.ofString "script"]) (hc0 : cs'[0]? = some (.fix ol)) (hlaw : Exs 17 sc [(Str.ofString "script", .obj 0)] [.fix ol] body (.ret (.bool true)) loc' cs')
    {Q : Value → Shared → Prop} {E : Value → Shared → Prop} (hQ : ∀ s', OldK s₁.heap s'.heap → s'.os = s₁.os → AllBare s'.gens → Q (.bool true) s') : wpAny (MD w) callerA (call (.ref a) [.ref la]) Q E s₁ := by
  refine hideG fun Gq hGq => ?_
  obtain ⟨oc, od, osl, hat⟩ := FP.at_
  obtain ⟨cc, ocd, cvs, t, hcode, hct, hcl2, hcd, hc1⟩ := FP.cd
  refine hGq ?_
  clear hGq Gq
  have hdep : callerA.depth < recursionLimit := by show 301 < 1000; lia
  refine wpAny_call (codeAny_call_def (binds := [Str.ofString "script"].zip [.ref la]) hdep (KX _ _ hat) rfl lim
    ⟨cc, ocd, cvs, t, hcode, KX _ _ hcl2, hcd, hc1⟩ FP.bod (FP.bind s₁ (fun b o e n => KX _ _ e) [.ref la] rfl) (by rw [FP.scp]; exact FP.cell) ?_ ?_ (by rw [FP.scp]; exact FP.co) (by rw [FP.scp]; exact FP.gen) (by rw [FP.scp]; exact FP.kind))
  · intro x hx
    rw [FP.scp]
    exact FP.loc _ (List.of_mem_zip hx).1
  · intro h0 hns hk
    have R := rep0 KX ng nb hb lim hL hg (a := a) hol hns rfl hk (s₁.toks + ([Str.ofString "script"].zip [Value.ref la]).length)
    refine wpAny_mono (hlaw w _ _ _ (cx0_ok FP _ _) R) (fun f' s' hq => ?_) fun _ _ x => x.elim
    refine hideG fun Gq hGq => ?_
    obtain ⟨ρ', P, v', rfl, rfl⟩ := hq
    refine hGq ?_
    clear hGq Gq
    exact hQ s' (end0 KX ng nb hb lim hL hol P.pre hc0 P.rep) P.rep.stat.os P.rep.stat.bare
theorem join_core (KX : (Kx w.params).In s₁.heap) (ng : s₁.heap.Ns mainGlobals mg) (nb : s₁.heap.Ns builtinsNs mb) (hb : ∀ x : Str, x ≠ "__name__" → mb x = bootBuiltins x) (lim : s₁.heap.NoLimit) (hg : s₁.gens = #[]) (hL : s₁.heap.IsList la vs.toArray) (hI : IntsAre vs s) (hs : s.length ≤ 63)
    {Q : Value → Shared → Prop} {E : Value → Shared → Prop} (hQ : ∀ s', OldK s₁.heap s'.heap → s'.os = s₁.os → AllBare s'.gens → Q (.bool true) s') : wpAny (MD w) callerA (call (.ref 284) [.ref la]) Q E s₁ := by
  refine hideG fun Gq hGq => ?_
  obtain ⟨ol, hol, _⟩ := id hL
  obtain ⟨rows, outs, H⟩ := law_ok_all hs
  obtain ⟨cs', hc0, loc', hlaw⟩ := cl_law (k := 8) (argOK_of hol hL hI) hs H
  refine hGq ?_
  clear hGq Gq
  rw [← body284] at hlaw
  exact join_fn KX ng nb hb lim hg hL hol (fn284 w.params) hc0 hlaw hQ
end
end
end Mine
namespace Mine
open PySem PySem.W PyProof.Rows PySem.Calls
set_option pp.deepTerms false in
set_option pp.deepTerms.threshold 4 in
set_option maxHeartbeats 4000000 in
theorem fin : PySem.Challenge.rw_pg0202_01.Holds := by
  refine Mine.hd ?_
  intro w s₀ s₁ mg mb G Y fa o pm cd doc dV kV ho hd hcd hD hmg hg args vals as hpre hlay hrd hwl hlo
  have KX := kIn_of Y
  refine Ground.open G ?_
  intro T B D TE TW
  wrow_args hpre hlay hrd hwl hlo
  have hfa : fa = 284 := by
    have e : mg (Str.ofString "law") = some (.ref 284) := by rw [ns_glOf KX T.g rfl]; rfl
    have e2 : some (Value.ref fa) = some (Value.ref 284) := hmg.symm.trans e
    cases e2; rfl
  subst hfa
  rename_i ns _ _ _ _ _ _ _ la vs _ hL _ _ _ hI _ hlen _
  have hlen' : ns.length ≤ 63 := by omega
  exact join_core KX T.g T.b T.builtins T.nolimit hg hL hI hlen' fun s' hold hos hbare => ⟨.inl ⟨.bool true, .bool true, [], rfl, raisesW_false (by wrow_none_raised), ReadsW.bool _, postW_of (by wrow_shape) (by wtm_val) (by str_meet; first | done | w_fin), by first | exact unshared_nil | exact fun h => absurd h (by decide)⟩, hold, hos, hbare⟩
end Mine
theorem PySem.Challenge.cw_pg0202_01_holds : PySem.Challenge.rw_pg0202_01.Holds :=
  Mine.fin
