import PyProof.Rows.All
import Wide.All
import OpenK.AllK
import Wide.FinOn
import Lean
import PySem.Challenge.RW_re0068_01
set_option Elab.async false
set_option maxRecDepth 100000
set_option maxHeartbeats 8000000
set_option linter.unusedVariables false

section
open PySem PySem.W PyProof.Rows
namespace Mine
/-- of nineteen statements all but the names' own (0, 3, 7, 9) -/
noncomputable def pick15 {l : List Stmt} {a0 a1 a2 a3 a4 a5 a6 a7 a8 a9 b0 b1 b2 b3 b4 b5 b6 b7 b8 : Stmt} (_ : l = [a0, a1, a2, a3, a4, a5, a6, a7, a8, a9, b0, b1, b2, b3, b4, b5, b6, b7, b8]) : List Stmt :=
  [a1, a2, a4, a5, a6, a8, b0, b1, b2, b3, b4, b5, b6, b7, b8]
noncomputable def view : Program := { PySem.Challenge.pw_re0068_01 with main := { PySem.Challenge.pw_re0068_01.main with body := pick15 (l := PySem.Challenge.pw_re0068_01.main.body) rfl } }
local macro_rules | `(tactic| o_head $H) => `(tactic| (
  refine holds_open (q := Mine.view) (loose := []) (Xt := fun s => xlAt Mine.view [] s && recOk (RowW.records (OpenRow.toRowW (OpenLaw.row PySem.Challenge.rw_re0068_01))) s) (XP := XL Mine.view []) (Yf := Hook.obs $H) (Ya := Hook.val $H) (YP := Hook.says $H) (N := 1664) ?hl (Hook.of $H) (Hook.keeps $H) (fun s e => xl_of s (Bool.and_eq_true_iff.mp e).1) XL.keeps (by rfl) (by rfl) (by rfl) (fun s e => recFacts_of (Bool.and_eq_true_iff.mp e).2) (by rfl) (by assumption) (by decide +kernel) ⟨rfl, rfl, rfl, rfl, rfl, by decide +kernel⟩ ?hw ?hc
  (case hl => intro w; kernel_rfl)))
open_top hd for PySem.Challenge.rw_re0068_01
end Mine
end

section
open PySem PySem.W PyProof.Rows PySem.Spec PySem.Calls
namespace Mine
universe u
theorem ne_world : Nonempty World := let ⟨w, _⟩ := PySem.World.exists_sane; ⟨w⟩
theorem ne_around : Nonempty Around := ⟨{}⟩
theorem ne_shared : Nonempty Shared := ⟨{}⟩
theorem ne_model : Nonempty Model := let ⟨w⟩ := ne_world; ⟨⟨fun _ => .unsupported "", Classical.ofNonempty, w⟩⟩
theorem ne_pair {α β : Type u} (a : Nonempty α) (b : Nonempty β) : Nonempty (α × β) := let ⟨x⟩ := a; let ⟨y⟩ := b; ⟨(x, y)⟩
/-- a thing at which P fails, if there is one -/
noncomputable def pk {α : Type u} (ne : Nonempty α) (P : α → Prop) : α := (@Classical.choice {x // P x → ∀ y, P y} (let ⟨a⟩ := ne; (Classical.em (∃ y, ¬ P y)).elim (fun ⟨y, q⟩ => ⟨y, fun p => (q p).elim⟩) fun q => ⟨a, fun _ y => Classical.byContradiction fun n => q ⟨y, n⟩⟩)).val
theorem cl1 {α : Type u} {P : α → Prop} (ne : Nonempty α) (h : P (pk ne P)) : ∀ x, P x := (@Classical.choice {x // P x → ∀ y, P y} _).property h
noncomputable def q1 {α β : Type u} (t : α × β) : α := t.1
noncomputable def q2 {α β : Type u} (t : α × β) : β := t.2
noncomputable def U2 {α0 α1 : Type u} (P : α0 → α1 → Prop) (t : α0 × α1) : Prop := P (q1 t) (q2 t)
theorem cl2 {α0 α1 : Type u} {P : α0 → α1 → Prop} (ne : Nonempty (α0 × α1)) (h : P (q1 (pk ne (U2 P))) (q2 (pk ne (U2 P)))) : ∀ x0 x1, P x0 x1 := fun x0 x1 => cl1 (P := U2 P) ne h (x0, x1)
noncomputable def U3 {α0 α1 α2 : Type u} (P : α0 → α1 → α2 → Prop) (t : α0 × α1 × α2) : Prop := P (q1 t) (q1 (q2 t)) (q2 (q2 t))
theorem cl3 {α0 α1 α2 : Type u} {P : α0 → α1 → α2 → Prop} (ne : Nonempty (α0 × α1 × α2)) (h : P (q1 (pk ne (U3 P))) (q1 (q2 (pk ne (U3 P)))) (q2 (q2 (pk ne (U3 P))))) : ∀ x0 x1 x2, P x0 x1 x2 := fun x0 x1 x2 => cl1 (P := U3 P) ne h (x0, x1, x2)
noncomputable def U4 {α0 α1 α2 α3 : Type u} (P : α0 → α1 → α2 → α3 → Prop) (t : α0 × α1 × α2 × α3) : Prop := P (q1 t) (q1 (q2 t)) (q1 (q2 (q2 t))) (q2 (q2 (q2 t)))
theorem cl4 {α0 α1 α2 α3 : Type u} {P : α0 → α1 → α2 → α3 → Prop} (ne : Nonempty (α0 × α1 × α2 × α3)) (h : P (q1 (pk ne (U4 P))) (q1 (q2 (pk ne (U4 P)))) (q1 (q2 (q2 (pk ne (U4 P))))) (q2 (q2 (q2 (pk ne (U4 P)))))) : ∀ x0 x1 x2 x3, P x0 x1 x2 x3 := fun x0 x1 x2 x3 => cl1 (P := U4 P) ne h (x0, x1, x2, x3)
noncomputable def U5 {α0 α1 α2 α3 α4 : Type u} (P : α0 → α1 → α2 → α3 → α4 → Prop) (t : α0 × α1 × α2 × α3 × α4) : Prop := P (q1 t) (q1 (q2 t)) (q1 (q2 (q2 t))) (q1 (q2 (q2 (q2 t)))) (q2 (q2 (q2 (q2 t))))
theorem cl5 {α0 α1 α2 α3 α4 : Type u} {P : α0 → α1 → α2 → α3 → α4 → Prop} (ne : Nonempty (α0 × α1 × α2 × α3 × α4)) (h : P (q1 (pk ne (U5 P))) (q1 (q2 (pk ne (U5 P)))) (q1 (q2 (q2 (pk ne (U5 P))))) (q1 (q2 (q2 (q2 (pk ne (U5 P)))))) (q2 (q2 (q2 (q2 (pk ne (U5 P))))))) : ∀ x0 x1 x2 x3 x4, P x0 x1 x2 x3 x4 := fun x0 x1 x2 x3 x4 => cl1 (P := U5 P) ne h (x0, x1, x2, x3, x4)
noncomputable def U6 {α0 α1 α2 α3 α4 α5 : Type u} (P : α0 → α1 → α2 → α3 → α4 → α5 → Prop) (t : α0 × α1 × α2 × α3 × α4 × α5) : Prop := P (q1 t) (q1 (q2 t)) (q1 (q2 (q2 t))) (q1 (q2 (q2 (q2 t)))) (q1 (q2 (q2 (q2 (q2 t))))) (q2 (q2 (q2 (q2 (q2 t)))))
theorem cl6 {α0 α1 α2 α3 α4 α5 : Type u} {P : α0 → α1 → α2 → α3 → α4 → α5 → Prop} (ne : Nonempty (α0 × α1 × α2 × α3 × α4 × α5)) (h : P (q1 (pk ne (U6 P))) (q1 (q2 (pk ne (U6 P)))) (q1 (q2 (q2 (pk ne (U6 P))))) (q1 (q2 (q2 (q2 (pk ne (U6 P)))))) (q1 (q2 (q2 (q2 (q2 (pk ne (U6 P))))))) (q2 (q2 (q2 (q2 (q2 (pk ne (U6 P)))))))) : ∀ x0 x1 x2 x3 x4 x5, P x0 x1 x2 x3 x4 x5 := fun x0 x1 x2 x3 x4 x5 => cl1 (P := U6 P) ne h (x0, x1, x2, x3, x4, x5)
noncomputable def U7 {α0 α1 α2 α3 α4 α5 α6 : Type u} (P : α0 → α1 → α2 → α3 → α4 → α5 → α6 → Prop) (t : α0 × α1 × α2 × α3 × α4 × α5 × α6) : Prop := P (q1 t) (q1 (q2 t)) (q1 (q2 (q2 t))) (q1 (q2 (q2 (q2 t)))) (q1 (q2 (q2 (q2 (q2 t))))) (q1 (q2 (q2 (q2 (q2 (q2 t)))))) (q2 (q2 (q2 (q2 (q2 (q2 t))))))
theorem cl7 {α0 α1 α2 α3 α4 α5 α6 : Type u} {P : α0 → α1 → α2 → α3 → α4 → α5 → α6 → Prop} (ne : Nonempty (α0 × α1 × α2 × α3 × α4 × α5 × α6)) (h : P (q1 (pk ne (U7 P))) (q1 (q2 (pk ne (U7 P)))) (q1 (q2 (q2 (pk ne (U7 P))))) (q1 (q2 (q2 (q2 (pk ne (U7 P)))))) (q1 (q2 (q2 (q2 (q2 (pk ne (U7 P))))))) (q1 (q2 (q2 (q2 (q2 (q2 (pk ne (U7 P)))))))) (q2 (q2 (q2 (q2 (q2 (q2 (pk ne (U7 P))))))))) : ∀ x0 x1 x2 x3 x4 x5 x6, P x0 x1 x2 x3 x4 x5 x6 := fun x0 x1 x2 x3 x4 x5 x6 => cl1 (P := U7 P) ne h (x0, x1, x2, x3, x4, x5, x6)
noncomputable def U8 {α0 α1 α2 α3 α4 α5 α6 α7 : Type u} (P : α0 → α1 → α2 → α3 → α4 → α5 → α6 → α7 → Prop) (t : α0 × α1 × α2 × α3 × α4 × α5 × α6 × α7) : Prop := P (q1 t) (q1 (q2 t)) (q1 (q2 (q2 t))) (q1 (q2 (q2 (q2 t)))) (q1 (q2 (q2 (q2 (q2 t))))) (q1 (q2 (q2 (q2 (q2 (q2 t)))))) (q1 (q2 (q2 (q2 (q2 (q2 (q2 t))))))) (q2 (q2 (q2 (q2 (q2 (q2 (q2 t)))))))
theorem cl8 {α0 α1 α2 α3 α4 α5 α6 α7 : Type u} {P : α0 → α1 → α2 → α3 → α4 → α5 → α6 → α7 → Prop} (ne : Nonempty (α0 × α1 × α2 × α3 × α4 × α5 × α6 × α7)) (h : P (q1 (pk ne (U8 P))) (q1 (q2 (pk ne (U8 P)))) (q1 (q2 (q2 (pk ne (U8 P))))) (q1 (q2 (q2 (q2 (pk ne (U8 P)))))) (q1 (q2 (q2 (q2 (q2 (pk ne (U8 P))))))) (q1 (q2 (q2 (q2 (q2 (q2 (pk ne (U8 P)))))))) (q1 (q2 (q2 (q2 (q2 (q2 (q2 (pk ne (U8 P))))))))) (q2 (q2 (q2 (q2 (q2 (q2 (q2 (pk ne (U8 P)))))))))) : ∀ x0 x1 x2 x3 x4 x5 x6 x7, P x0 x1 x2 x3 x4 x5 x6 x7 := fun x0 x1 x2 x3 x4 x5 x6 x7 => cl1 (P := U8 P) ne h (x0, x1, x2, x3, x4, x5, x6, x7)
/-- a type and a thing of it at which P fails, if there is one -/
noncomputable def pkS (P : (σ : Type) → σ → Prop) : (σ : Type) × σ := pk ⟨⟨Unit, ()⟩⟩ fun t => P t.1 t.2
theorem clS {P : (σ : Type) → σ → Prop} (h : P (pkS P).1 (pkS P).2) : ∀ σ c, P σ c := fun σ c => cl1 (P := fun t : (σ : Type) × σ => P t.1 t.2) ⟨⟨Unit, ()⟩⟩ h ⟨σ, c⟩
end Mine
end

section
local macro_rules | `(tactic| intro $xs:term*) => do
  unless 0 < xs.size && xs.all (fun x => x.raw.isIdent || x.raw.isOfKind ``Lean.Parser.Term.hole) do Lean.Macro.throwUnsupported
  let rest (k : Nat) : Lean.MacroM (Lean.TSyntax `tactic) := let r := xs.extract k xs.size; if r.size == 0 then `(tactic| skip) else `(tactic| intro $r*)
  let mut ts := #[]
  for i in [0:min xs.size 8] do
    let k := min xs.size 8 - i
    let vs := (Array.range k).map fun i => Lean.mkIdent (Lean.Name.mkSimple s!"x{i}")
    let mut p : Lean.Term ← if k == 1 then `(Mine.pk ?ne ?P) else `(Mine.pk ?ne ($(Lean.mkIdent (.str `Mine s!"U{k}")) ?P))
    let mut as : Array Lean.Term := #[]
    for j in [0:k] do
      if j + 1 == k then as := as.push p
      else
        as := as.push (← `(Mine.q1 $p))
        p ← `(Mine.q2 $p)
    let ys : Array (Lean.TSyntax [`ident, `Lean.Parser.Term.hole]) := (xs.extract 0 k).map fun x => ⟨x.raw⟩
    ts := ts.push (← `(tactic| (with_reducible refine' no_implicit_lambda% ($(Lean.mkIdent (.str `Mine s!"cl{k}")) (P := ?P) ?ne ((?g : ∀ $vs*, ?P $vs*) $as*)); (case ne => repeat (first | exact inferInstance | exact Mine.ne_world | exact Mine.ne_around | exact Mine.ne_shared | exact Mine.ne_model | exact $(Lean.mkIdent `Mine.ne_lex) | refine Mine.ne_pair ?_ ?_ | exact Nonempty.intro (by assumption) | exact Nonempty.intro (by constructor <;> exact default))); intros $ys*; $(← rest k))))
  let y : Lean.TSyntax [`ident, `Lean.Parser.Term.hole] := ⟨xs[0]!.raw⟩
  ts := ts.push (← `(tactic| (intros $y; $(← rest 1))))
  let mut t := ts.back!
  for u in ts.pop.reverse do t ← `(tactic| first | $u:tactic | $t:tactic)
  return t
local macro_rules | `(tactic| walk_at "ListRest") => `(tactic| (with_unfolding_all first | (refine ListRest.succ ?_; intro it' h' tk' hit' F' N') | (refine ListRest.zero ?_; intro h' tk' F' N')))
local macro_rules | `(tactic| walk_at "callWith") => `(tactic| ((with_reducible show wpAny _ _ (callWith _ (Value.builtin _) (_ :: _) (backTo _ (starEach (_ :: _) _)) []) _ _ _); refine callWith_method1 ?_))

section
theorem Mine.top_off_MB : True := by
  w_top off
  trivial
local macro_rules | `(tactic| omega) => `(tactic| first | lia | omega (config := {}))
open PySem PySem.W PyProof.Rows PySem.Spec PySem.Calls
namespace Mine

/-- a place of the run of which only bounds are known -/
noncomputable def AM (n : Nat) : Around := { handled := none, depth := 300 + 10 * n, frames := none, guards := none, units := 100 * n }

theorem am_weak {α : Type} {M : Model} {A : Around} {t : Sem α} {Q : α → Shared → Prop} {E : Value → Shared → Prop} {s : Shared} {n : Nat}
    (h : wpAny M (AM n) t Q E s) (hh : A.handled = none) (hd : A.depth ≤ 300 + 10 * n) (hu : A.units ≤ 100 * n) : wpAny M A t Q E s := fun Γ p hΓ =>
  h Γ p ⟨hΓ.1.trans hh, Nat.le_trans hΓ.2.1 hd, (fun _ e => by cases e), (fun _ e => by cases e), Nat.le_trans hΓ.2.2.2.2 hu⟩

noncomputable abbrev Keeps (h h' : Heap) : Prop := ∀ b o, h.get? b = some o → h'.get? b = some o

/-- the heap only grows, no generator is left under way -/
structure Ext (s s' : Shared) : Prop where
  keep : ∀ b o, s.heap.get? b = some o → s'.heap.get? b = some o
  gens : AllBare s.gens → AllBare s'.gens
  drawn : s'.drawn = s.drawn
  os : s'.os = s.os

theorem Ext.refl (s : Shared) : Ext s s := ⟨fun _ _ e => e, id, rfl, rfl⟩
theorem Ext.trans {a b c : Shared} (x : Ext a b) (y : Ext b c) : Ext a c :=
  ⟨fun q o e => y.keep q o (x.keep q o e), fun g => y.gens (x.gens g), y.drawn.trans x.drawn, y.os.trans x.os⟩
theorem Ext.of {s : Shared} {h : Heap} {tk : Nat} (k : ∀ b o, s.heap.get? b = some o → h.get? b = some o) : Ext s { s with heap := h, toks := tk } := ⟨k, id, rfl, rfl⟩
theorem Ext.fr {s s' : Shared} {h₀ : Heap} {L : Addr} {m : Str → Option Value} (x : Ext s s') (F : Fr h₀ L s.heap m) : Fr h₀ L s'.heap m :=
  ⟨F.ns.keeps x.keep, fun b o e => x.keep b o (F.keep b o e), F.above⟩
theorem Ext.news {s s' : Shared} {h₀ : Heap} {L : Addr} {news : List (Addr × Obj)} (x : Ext s s') (N : News h₀ L s.heap news) : News h₀ L s'.heap news :=
  fun p hp => ⟨x.keep _ _ (N p hp).1, (N p hp).2⟩

theorem fr_kp {h₀ h h' : Heap} {L : Addr} {m : Str → Option Value} (F : Fr h₀ L h m) (k : Keeps h h') : Fr h₀ L h' m := ⟨F.ns.keeps k, fun b o e => k b o (F.keep b o e), F.above⟩
theorem news_kp {h₀ h h' : Heap} {L : Addr} {news : List (Addr × Obj)} (N : News h₀ L h news) (k : Keeps h h') : News h₀ L h' news := fun p hp => ⟨k _ _ (N p hp).1, (N p hp).2⟩

section
variable {prog : Program} {w : World} {A : Around} {s : Shared} {p : Program} {loose : List Str} {mean : ExcName → Option Value} {mg mb : Str → Option Value} {K : Frag}
  {name qual : Str} {params : Arguments} {body : List Stmt} {scope : Scope} {dV kV doc pm cdv ct oc : Value} {an od : Option Addr} {osl : Array (Option Value)} {f : Addr} {args : List Value} {binds : List (Str × Value)}
  {Q E : Value → Shared → Prop}

theorem call_fn (X : K.In s.heap) (T : Top p loose mean mg mb s.heap)
    (ho : K.lookup f = some ⟨oc, od, .func (fnOf name qual params body scope dV kV doc pm an cdv ct), osl⟩) (hcd : codeIn K cdv qual = true) (hroom : A.depth < recursionLimit)
    (hbind : BindsTo s (fnOf name qual params body scope dV kV doc pm an cdv ct) ⟨args, []⟩ binds) (hloc : ∀ y ∈ binds, scope.names.lookup y.1 = some .local)
    (h : ∀ L' h₁, Fr s.heap L' h₁ (fun y => binds.reverse.lookup y) → News s.heap L' h₁ [] →
      wpAny (model prog w) (A.deeper (envOf qual scope L' f cdv)) (execs body (envOf qual scope L' f cdv))
        (fun fl s' => Q (match fl with | .ret v => v | _ => .none) s') (fun _ _ => False) { s with heap := h₁, toks := s.toks + binds.length })
    (hco : scope.isCoroutine = false) (hgen : scope.isGenerator = false) (hk : scope.kind = .function) (hcell : ∀ x ∈ scope.names, x.2 ≠ .cell) :
    wpAny (model prog w) A (call (.ref f) args) Q E s := by
  refine wpAny_call (codeAny_call_def (fd := fnOf name qual params body scope dV kV doc pm an cdv ct) (body := body) (binds := binds) hroom (X _ _ ho) rfl T.nolimit (codeRec_of X hcd) rfl hbind hcell hloc (fun h₁ hns hk₁ => ?_) hco hgen hk)
  exact wpAny_mono (h s.heap.objs.size h₁ ⟨hns, hk₁, Nat.le_refl _⟩ News.nil) (fun _ _ x => x) fun _ _ x => x.elim
end

/-- a place where the walk is to wait for a word by hand -/
noncomputable def Hold (P : Prop) : Prop := P
theorem hold_of {P : Prop} (h : Hold P) : P := h
theorem hold_in {P : Prop} (h : P) : Hold P := h
end Mine
end

section
theorem Mine.top_off_SG : True := by
  w_top off
  trivial
local macro_rules | `(tactic| omega) => `(tactic| first | lia | omega (config := {}))
open PySem PySem.W PyProof.Rows PySem.Spec PySem.Calls
namespace Mine
section
variable {M : Model} {A : Around} {R : GenEnd} {Y : Protocol} {n : Nat} {s₀ : Shared} {c : Code} {fs : List Frame} {s : Shared} {env : Env}
  {K : Flow → Sem Fin} {H : Value → Sem Fin} {gd : Bool → Bool} {lv : List Value → List Value}

theorem seg_If {test : Expr} {body orelse : List Stmt} {pos : Pos}
    (h : wpAny M (A.over c fs) (isTrue test env (eval test env)) (fun b s' => if b = true then Seg M A R Y n s₀ c ((execs body env).wrap K H gd lv) fs s' else Seg M A R Y n s₀ c ((execs orelse env).wrap K H gd lv) fs s') (fun _ _ => False) s) :
    Seg M A R Y n s₀ c ((exec (.If test body orelse pos) env).wrap K H gd lv) fs s := by
  rw [exec_If]
  show Seg M A R Y n s₀ c (.at pos fun _ => (isTrue test env (eval test env) >>= fun b => if b = true then execs body env else execs orelse env).wrap K H gd lv) fs s
  refine seg_at ?_
  rw [Sem.bind_eq_wrap', Sem.wrap_wrap]
  refine seg_wrap (wpAny_mono h (fun b s' hb => ?_) fun _ _ x => x.elim)
  cases b with
  | true => exact hb
  | false => exact hb

theorem seg_stmt {st : Stmt} (h : wpAny M (A.over c fs) (exec st env) (fun f s' => Seg M A R Y n s₀ c (K f) fs s') (fun _ _ => False) s) :
    Seg M A R Y n s₀ c ((exec st env).wrap K H gd lv) fs s := seg_wrap (wpAny_mono h (fun _ _ x => x) fun _ _ x => x.elim)

theorem holding_wrap {α β : Type} (m : Sem α) (vs : List Value) (K : α → Sem β) (H : Value → Sem β) (gd : Bool → Bool) (lv : List Value → List Value) : ∃ lv', (holding vs m).wrap K H gd lv = m.wrap K H gd lv' := by
  unfold holding
  split
  · exact ⟨lv, rfl⟩
  · rw [Sem.keep_eq_wrap, Sem.wrap_wrap]
    exact ⟨_, rfl⟩

theorem seg_For {target iter : Expr} {body orelse : List Stmt} {pos : Pos}
    (h : wpAny M (A.over c fs) (eval iter env) (fun x s₁ => wpAny M (A.over c fs) (pyIter x) (fun it s₂ => ∀ p, Seg M A R Y n s₀ (.forLoop target it body orelse env) (M.den (.forLoop target it body orelse env))
      (.ret (fun r => ((match r with | .ok f => (.pure f : Sem Flow) | .error e => .raise e).onRaise fun (x : Value) => do
        if (← field x 1) == Value.none then unsupported "frame.own-activation:exception-without-traceback"
        setFlight x env.frame).wrap K H gd lv) none (gd false) (lv []) c p [] :: fs) s₂) (fun _ _ => False) s₁) (fun _ _ => False) s)
    (hs : ∀ x, foldedSetIterable iter env x = pure x) :
    Seg M A R Y n s₀ c ((exec (.For target iter body orelse pos) env).wrap K H gd lv) fs s := by
  rw [exec_For]
  show Seg M A R Y n s₀ c (.at pos fun _ => (eval iter env >>= fun x0 => (foldedSetIterable iter env x0 >>= fun x => (standAt iter.pos >>= fun _ => (holding [x] (pyIter x) >>= fun it => runOwn (.forLoop target it body orelse env) env)))).wrap K H gd lv) fs s
  refine seg_at ?_
  rw [Sem.bind_eq_wrap', Sem.wrap_wrap]
  refine seg_wrap (wpAny_mono h (fun x s₁ h₁ => ?_) fun _ _ x => x.elim)
  rw [hs]
  show Seg M A R Y n s₀ c (.at iter.pos fun _ => (holding [x] (pyIter x) >>= fun it => runOwn (.forLoop target it body orelse env) env).wrap K H (fun g => gd (id g)) (fun l => lv (id l))) fs s₁
  refine seg_at ?_
  rw [Sem.bind_eq_wrap', Sem.wrap_wrap]
  obtain ⟨lv', e⟩ := holding_wrap (pyIter x) [x] (fun it => (runOwn (.forLoop target it body orelse env) env).wrap K H (fun g => gd (id g)) (fun l => lv (id l))) (fun e => (Sem.raise e : Sem Flow).wrap K H (fun g => gd (id g)) (fun l => lv (id l))) (fun g => (fun g => gd (id g)) (id g)) (fun l => (fun l => lv (id l)) (id l))
  rw [e]
  refine seg_wrap (wpAny_mono h₁ (fun it s₂ h₂ => ?_) fun _ _ x => x.elim)
  exact seg_call h₂
end

section
variable {prog : Program} {w : World} {A : Around} {R : GenEnd} {Y : Protocol} {n : Nat} {s₀ : Shared} {fs : List Frame} {s : Shared} {env : Env}
theorem seg_forLoop {target : Expr} {it : Value} {body : List Stmt}
    (h : wpAny (model prog w) (A.over (.forLoop target it body [] env) fs) (pyNext it) (fun r s' => match r with
        | none => Seg (model prog w) A R Y n s₀ (.block [] env) (.pure (.done .next)) fs s'
        | some v => wpAny (model prog w) (A.over (.forLoop target it body [] env) fs) (letOwnedTupleGo target it v) (fun _ s₁ =>
            wpAny (model prog w) (A.over (.forLoop target it body [] env) fs) (assign target env v) (fun _ s₂ =>
              Seg (model prog w) A R Y n s₀ (.forLoop target it body [] env) ((execs body env).wrap (fun f => match f with
                | .next | .cont => .pure (.again (.forLoop target it body [] env))
                | .brk => .pure (.done .next)
                | .ret v => .pure (.done (.ret v))) (fun e => (do noteFrame e env; theTreesLotGoes e : Sem Unit).wrap (fun _ => .raise e) .raise id id) id id) fs s₂) (fun _ _ => False) s₁) (fun _ _ => False) s') (fun _ _ => False) s) :
    Seg (model prog w) A R Y n s₀ (.forLoop target it body [] env) ((model prog w).den (.forLoop target it body [] env)) fs s := by
  show Seg _ A R Y n s₀ _ ((forTurn target it body [] env).onRaise (fun x => do noteFrame x env; theTreesLotGoes x)) fs s
  unfold forTurn
  rw [Sem.onRaise_eq_wrap]
  show Seg _ A R Y n s₀ _ (.at target.pos fun _ => ((pyNext it).onRaise (fun _ => standAt { target.pos with line := 0 }) >>= _).wrap _ _ _ _) fs s
  refine seg_at ?_
  rw [Sem.onRaise_eq_wrap, Sem.bind_eq_wrap', Sem.wrap_wrap, Sem.wrap_wrap]
  refine seg_wrap (wpAny_mono h (fun r s' hr => ?_) fun _ _ x => x.elim)
  cases r with
  | none =>
    show Seg _ A R Y n s₀ _ (.pure (.again (.block [] env))) fs s'
    refine seg_again rfl ?_
    show Seg _ A R Y n s₀ _ (.pure (.done .next)) fs s'
    exact hr
  | some v =>
    show Seg _ A R Y n s₀ _ ((letOwnedTupleGo target it v >>= fun _ => (assign target env v >>= fun _ => (execs body env >>= _))).wrap _ _ _ _) fs s'
    rw [Sem.bind_eq_wrap', Sem.wrap_wrap]
    refine seg_wrap (wpAny_mono hr (fun _ s₁ h₁ => ?_) fun _ _ x => x.elim)
    rw [Sem.bind_eq_wrap', Sem.wrap_wrap]
    refine seg_wrap (wpAny_mono h₁ (fun _ s₂ h₂ => ?_) fun _ _ x => x.elim)
    rw [Sem.bind_eq_wrap', Sem.wrap_wrap]
    rw [Sem.wrap_congr (execs body env) _ _ (K' := fun f => match f with
                | .next | .cont => .pure (.again (.forLoop target it body [] env))
                | .brk => .pure (.done .next)
                | .ret v => .pure (.done (.ret v))) (H' := (fun e => (do noteFrame e env; theTreesLotGoes e : Sem Unit).wrap (fun _ => .raise e) .raise id id))
        (fun f => by cases f <;> rfl)
        (fun e => by first | exact Sem.bind_eq_wrap _ _ | (show (do noteFrame e env; theTreesLotGoes e : Sem Unit).bind (fun _ => .raise e) = _; rw [Sem.bind_eq_wrap]))]
    exact h₂
end
end Mine
end

section
theorem Mine.top_off_GN : True := by
  w_top off
  trivial
open PySem PySem.W PyProof.Rows PySem.Spec PySem.Calls
namespace Mine

/-- the tuple that is handed on at place i -/
noncomputable def pairObj (i : Int) (t₁ : Tok) (c : Nat) (t₂ : Tok) : Obj := { cls := .type "tuple", data := .seq #[.int i t₁, .str ⟨#[c]⟩ t₂] }

/-- all that lies up to G, but L, is kept -/
noncomputable def KeptLow (L G : Addr) (s₀ s : Shared) : Prop := (∃ h tk, s = { s₀ with heap := h, toks := tk }) ∧ ∀ b o, b ≠ L → b ≤ G → s₀.heap.get? b = some o → s.heap.get? b = some o
noncomputable def GO (O : List (Addr × Obj)) (s : Shared) : Prop := ∀ p ∈ O, s.heap.get? p.1 = some p.2

noncomputable def YP (x : Str) (hb : Heap) (L G : Addr) : Protocol := fun n s₀ v s₁ kap =>
  ∃ (O : List (Addr × Obj)) (T : Addr) (t₁ t₂ : Tok) (c : Nat), n < x.cps.size ∧ x.cps[x.cps.size - 1 - n]? = some c ∧ v = .ref T ∧ s₁.heap.get? T = some (pairObj ((x.cps.size - 1 - n : Nat) : Int) t₁ c t₂) ∧ KeptLow L G s₀ s₁ ∧
    (∀ p ∈ O, p.1 = L ∨ G < p.1) ∧ GO O s₁ ∧ (∀ p ∈ O, p.1 < T) ∧ G < T ∧
    ∀ s'', GO O s'' → Keeps hb s''.heap → kap (.send .none) s''
noncomputable def RP (L G : Addr) : Nat → Shared → Shared → Prop := fun n s₀ s₁ => n = 0 ∧ KeptLow L G s₀ s₁
noncomputable def RE (L G : Addr) : GenEnd := fun n s₀ r s₁ => r = .ok (.ret .none) ∧ RP L G n s₀ s₁

structure GInv (x : Str) (tx : Tok) (L e it : Addr) (i : Nat) (s : Shared) : Prop where
  en : ∃ old, IsEnum s.heap e it i old
  si : s.heap.IsStrIter it "str_ascii_iterator" x tx i
  ns : ∃ m, s.heap.Ns L m ∧ m (Str.ofString "escape") = some (.bool false)

theorem ne_lo {a g e : Nat} (h1 : a ≤ g) (h2 : g < e) : a ≠ e := by omega
theorem KeptLow.refl {L G : Addr} (s : Shared) : KeptLow L G s s := ⟨⟨_, _, rfl⟩, fun _ _ _ _ e => e⟩

section
variable {prog : Program} {w : World} {A : Around} {x : Str} {tx : Tok} {hb : Heap} {L G e it : Addr} {env : Env} {fs : List Frame} {q1 q2 q3 p1 p2 p3 p4 p5 p6 y1 y2 y3 y4 y5 : Pos} {k0 k1 k2 : Nat} {a b : List Stmt}

theorem gen_loop (hA : (marksOver fs (A.handled, A.handled)).1 = none) (hfs : splitAtGen fs = none) (hfg : fs.any Frame.guarded = false) (hx : ∀ (i : Nat) (c : Nat), x.cps[i]? = some c → c ≠ 92)
    (hkf : env.scope.kind = .function) (kE : env.kindOf (Str.ofString "escape") = some .local) (kC : env.kindOf (Str.ofString "ch") = some .local) (kP : env.kindOf (Str.ofString "pos") = some .local) (hco : env.scope.isCoroutine = false) (hint : interactive env = false)
    (hp : (env.scope.kind == .class || (env.scope.kind == .module && env.locals != env.globals)) = false)
    (hL : env.locals = L) (hLG : L ≤ G) (hGe : G < e) (hGi : G < it) (hei : e ≠ it)
    (hend : ∀ s₀ s, KeptLow L G s₀ s → (∃ m, s.heap.Ns L m ∧ m (Str.ofString "escape") = some (.bool false)) → Seg (model prog w) A (RE L G) (YP x hb L G) 0 s₀ (.block [] env) (.pure (.done .next)) fs s) :
    ∀ n i, n + i = x.cps.size → ∀ s₀ s, KeptLow L G s₀ s → GInv x tx L e it i s →
      Seg (model prog w) A (RE L G) (YP x hb L G) n s₀ (.forLoop (.Tuple [.Name (Str.ofString "pos") q1, .Name (Str.ofString "ch") q2] k0 q3) (.ref e)
          [.If (.Name (Str.ofString "escape") p1) a [.If (.Compare (.Name (Str.ofString "ch") p2) [.Eq] [.Constant (.str (Str.ofString "\\")) k1 p3] p4) b [.Expr (.Yield (some (.Tuple [.Name (Str.ofString "pos") y1, .Name (Str.ofString "ch") y2] k2 y3)) y4) y5] p5] p6] [] env)
        ((model prog w).den (.forLoop (.Tuple [.Name (Str.ofString "pos") q1, .Name (Str.ofString "ch") q2] k0 q3) (.ref e)
          [.If (.Name (Str.ofString "escape") p1) a [.If (.Compare (.Name (Str.ofString "ch") p2) [.Eq] [.Constant (.str (Str.ofString "\\")) k1 p3] p4) b [.Expr (.Yield (some (.Tuple [.Name (Str.ofString "pos") y1, .Name (Str.ofString "ch") y2] k2 y3)) y4) y5] p5] p6] [] env)) fs s := by
  revert prog w A x tx hb L G e it env fs q1 q2 q3 p1 p2 p3 p4 p5 p6 y1 y2 y3 y4 y5 k0 k1 k2 a b hA hfs hfg hx hkf kE kC kP hco hint hp hL hLG hGe hGi hei hend
  show ∀ prog w A x tx hb L G e it env fs q1 q2 q3 p1 p2 p3 p4 p5 p6 y1 y2 y3 y4 y5 k0 k1 k2 a b hA hfs hfg hx hkf kE kC kP hco hint hp hL hLG hGe hGi hei hend, _
  intro prog w A x tx hb L G e it env fs q1 q2 q3 p1 p2 p3 p4 p5 p6 y1 y2 y3 y4 y5 k0 k1 k2 a b
  intros hA hfs hfg hx hkf kE kC kP hco hint hp hL hLG hGe hGi hei hend
  subst hL
  intro n
  induction n with
  | zero =>
    intro i hni s₀ s hk hg
    have hin : i = x.cps.size := by omega
    subst hin
    refine seg_forLoop ?_
    have W := WalksT.enumerateD (Draws.strAscii (prog := prog) (w := w) (A := (A.over (.forLoop (.Tuple [.Name (Str.ofString "pos") q1, .Name (Str.ofString "ch") q2] k0 q3) (.ref e)
          [.If (.Name (Str.ofString "escape") p1) a [.If (.Compare (.Name (Str.ofString "ch") p2) [.Eq] [.Constant (.str (Str.ofString "\\")) k1 p3] p4) b [.Expr (.Yield (some (.Tuple [.Name (Str.ofString "pos") y1, .Name (Str.ofString "ch") y2] k2 y3)) y4) y5] p5] p6] [] env) fs).in1) hA it x tx) e hei (fun h => hei (List.mem_singleton.mp h)) (List.mem_singleton.mpr rfl)
    refine W.done s _ _ ⟨hg.en, hg.si⟩ ?_
    intro h' tk hk'
    obtain ⟨m, hn, hm⟩ := hg.ns
    revert m hn hm
    intro m hn hm
    have hLe : env.locals ≠ e := ne_lo hLG hGe
    have hLi : env.locals ≠ it := ne_lo hLG hGi
    refine hend s₀ _ ⟨?_, fun b o h1 h2 h3 => hk' b o ?_ (hk.2 b o h1 h2 h3)⟩ ⟨m, hn.at' fun o q => hk' _ o ?_ q, hm⟩
    · obtain ⟨h, tk', hr1⟩ := hk.1
      revert h tk' hr1
      intro h tk' hr1
      obtain rfl := hr1
      exact ⟨_, _, rfl⟩
    · intro q
      rcases List.mem_cons.mp q with q | q
      · exact ne_lo h2 hGe q
      · exact ne_lo h2 hGi (List.mem_singleton.mp q)
    · intro q'
      rcases List.mem_cons.mp q' with q' | q'
      · exact hLe q'
      · exact hLi (List.mem_singleton.mp q')
  | succ n ih =>
    revert n
    intro n ih
    intro i hni s₀ s hk hg
    have hi : i < x.cps.size := by omega
    refine seg_forLoop ?_
    have W := WalksT.enumerateD (Draws.strAscii (prog := prog) (w := w) (A := (A.over (.forLoop (.Tuple [.Name (Str.ofString "pos") q1, .Name (Str.ofString "ch") q2] k0 q3) (.ref e)
          [.If (.Name (Str.ofString "escape") p1) a [.If (.Compare (.Name (Str.ofString "ch") p2) [.Eq] [.Constant (.str (Str.ofString "\\")) k1 p3] p4) b [.Expr (.Yield (some (.Tuple [.Name (Str.ofString "pos") y1, .Name (Str.ofString "ch") y2] k2 y3)) y4) y5] p5] p6] [] env) fs).in1) hA it x tx) e hei (fun h => hei (List.mem_singleton.mp h)) (List.mem_singleton.mpr rfl)
    refine W.item i s _ _ hi ⟨hg.en, hg.si⟩ ?_
    intro T vals h₁ tk₁
    intros hPt
    obtain ⟨t, v, ⟨c, u, hc, hr2⟩, hr3⟩ := hPt
    revert t v hr3 c u hc hr2
    intro t v hr3 c u hc hr2 hT hTup hMid hk₁
    obtain rfl := hr2
    obtain rfl := hr3
    have hTw := W.apart i T h₁ hMid
    refine W.go _ _ _ i T _ _ _ hMid ?_
    intro h₂ hst₂ hk₂
    have hTup₂ : h₂.IsTuple T #[.int i t, .str ⟨#[c]⟩ u] := let ⟨o, ho, r⟩ := hTup; ⟨o, hk₂ T o hTw ho, r⟩
    obtain ⟨m, hn, hm⟩ := hg.ns
    revert m hn hm
    intro m hn hm
    have hLw : env.locals ∉ [e, it] := fun q => by
      rcases List.mem_cons.mp q with q | q
      · exact ne_lo hLG hGe q
      · exact ne_lo hLG hGi (List.mem_singleton.mp q)
    have hn₂ : h₂.Ns env.locals m := (hn.at' fun o q => hk₁ _ o hLw q).at' fun o q => hk₂ _ o hLw q
    refine wpAny_assign_Tuple hA hTup₂ rfl rfl ?_
    intro h₃ hx₃
    replace hx₃ : Heap.ExtBut h₂.objs.size h₂ h₃ := hx₃
    have hn₃ : h₃.Ns env.locals m := hn₂.at' fun o q => hx₃ _ o (Nat.ne_of_lt (Heap.lt_size q)) q
    show wpAny _ _ (do holding [Value.str ⟨#[c]⟩ u] (assign (.Name (Str.ofString "pos") q1) env (.int i t)); do holding [] (assign (.Name (Str.ofString "ch") q2) env (.str ⟨#[c]⟩ u)); pure ()) _ _ _
    refine wpAny_bind (wpAny_holding (wpAny_assign_Name (wpAny_storeName_local kP hn₃ ?_ hp)))
    intro h₄ hn₄ hs₄
    replace hs₄ : Heap.SameBut env.locals h₃ h₄ := hs₄
    refine wpAny_bind (wpAny_holding (wpAny_assign_Name (wpAny_storeName_local kC hn₄ (fun h₅ hn₅ hs₅ => wpAny_pure ?_) hp)))
    replace hs₅ : Heap.SameBut env.locals h₄ h₅ := hs₅
    have mk : ∀ b o, b ≠ env.locals → h₂.get? b = some o → h₅.get? b = some o := fun b o hb q =>
      (hs₅.2 b hb).trans ((hs₄.2 b hb).trans (hx₃ b o (Nat.ne_of_lt (Heap.lt_size q)) q))
    have hst₅ := W.frame _ _ _ hst₂ fun b hb o q => mk b o (fun q' => hLw (by
      rcases List.mem_cons.mp hb with h | h
      · rw [← q', h]; exact .head _
      · rw [← q', List.mem_singleton.mp h]; exact .tail _ (.head _))) q
    refine seg_execs_cons (seg_If ?_)
    refine isTrue_plain (wpAny_Name (wpAny_loadName_local hkf kE hn₅ (v := .bool false) ?_ (wpAny_pure ?_)))
    · rw [if_neg (by decide), if_neg (by decide)]; exact hm
    rw [if_neg Bool.false_ne_true]
    refine seg_execs_cons (seg_If (wpAny_isTrue_Compare1 (wpAny_Name (wpAny_loadName_local hkf kC hn₅ (v := .str ⟨#[c]⟩ u) ?_ (wpAny_Constant_str (PyProof.Rows.eq_str (wpAny_pure ?_)))))))
    · rw [if_pos rfl]
    have hc92 : ((⟨#[c]⟩ : Str) == Str.ofString "\\") = false := by
      have e1 : Str.ofString "\\" = ⟨#[92]⟩ := by decide
      rw [e1]
      apply beq_eq_false_iff_ne.mpr
      intro q
      exact hx i c hc (by injection q with q; injection q with q; injection q)
    rw [hc92, if_neg Bool.false_ne_true]
    refine seg_execs_cons (seg_Expr_Yield hfs rfl hfg ?_ hco hint)
    refine Tuple_ (spliced_more (wpAny_Name (wpAny_loadName_local hkf kP hn₅ (v := .int i t) ?_ (spliced_more (wpAny_Name (wpAny_loadName_local hkf kC hn₅ (v := .str ⟨#[c]⟩ u) ?_ (spliced_none (wpAny_newTuple ?_))))))))
    · rw [if_neg (by decide), if_pos rfl]
    · rw [if_pos rfl]
    intro kap hkap
    obtain ⟨⟨old, hen₅⟩, hsi₅⟩ := hst₅
    revert hsi₅ old hen₅
    intro hsi₅ old hen₅
    obtain ⟨oe, hoe, hoe'⟩ : ∃ oe, h₅.get? e = some oe ∧ ∀ h' : Heap, h'.get? e = some oe → IsEnum h' e it ((i + 1 : Nat) : Int) old := ⟨_, hen₅, fun _ q => q⟩
    revert oe hoe hoe'
    intro oe hoe hoe'
    obtain ⟨oi, hoi, hoi'⟩ := id hsi₅
    revert oi hoi hoi'
    intro oi hoi hoi'
    obtain ⟨oL, es, ep, hoL, hL'⟩ := id hn₅
    revert oL es ep hoL hL'
    intro oL es ep hoL hL'
    have idx : x.cps.size - 1 - n = i := by omega
    have hsz : ∀ {b : Addr} {o : Obj}, h₅.get? b = some o → b < h₅.objs.size := fun q => Heap.lt_size q
    refine ⟨[(env.locals, oL), (e, oe), (it, oi)], h₅.objs.size, t, u, c, by omega, by rw [idx]; exact hc, rfl, ?_, ⟨?_, ?_⟩, ?_, ?_, ?_, ?_, ?_⟩
    · rw [idx]; exact Heap.get?_push_size _ rfl
    · obtain ⟨h, tk', hr4⟩ := hk.1
      revert h tk' hr4
      intro h tk' hr4
      obtain rfl := hr4
      exact ⟨_, _, rfl⟩
    · intro b o h1 h2 h3
      have hbw : b ∉ [e, it] := fun q => by
        rcases List.mem_cons.mp q with q | q
        · exact ne_lo h2 hGe q
        · exact ne_lo h2 hGi (List.mem_singleton.mp q)
      exact Heap.get?_push_of_some _ (mk b o h1 (hk₂ b o hbw (hk₁ b o hbw (hk.2 b o h1 h2 h3))))
    · intro p hp
      rcases List.mem_cons.mp hp with rfl | hp
      · exact .inl rfl
      · rcases List.mem_cons.mp hp with rfl | hp
        · exact .inr hGe
        · rw [List.mem_singleton.mp hp]; exact .inr hGi
    · intro p hp
      rcases List.mem_cons.mp hp with rfl | hp
      · exact Heap.get?_push_of_some _ hoL
      · rcases List.mem_cons.mp hp with rfl | hp
        · exact Heap.get?_push_of_some _ hoe
        · rw [List.mem_singleton.mp hp]; exact Heap.get?_push_of_some _ hoi
    · intro p hp
      rcases List.mem_cons.mp hp with rfl | hp
      · exact hsz hoL
      · rcases List.mem_cons.mp hp with rfl | hp
        · exact hsz hoe
        · rw [List.mem_singleton.mp hp]; exact hsz hoi
    · exact Nat.lt_trans hGe (hsz hoe)
    · intro s'' hgo hkb
      refine hkap .none s'' ?_
      show Seg _ _ _ _ n s'' _ (.pure (.again _)) fs s''
      refine seg_again rfl (ih (i + 1) (by omega) s'' s'' (KeptLow.refl s'') ⟨⟨old, hoe' _ (hgo _ (.tail _ (.head _)))⟩, ⟨oi, hgo _ (.tail _ (.tail _ (.head _))), hoi'⟩, ⟨_, ⟨oL, es, ep, hgo _ (.head _), hL'⟩, ?_⟩⟩)
      rw [if_neg (by decide), if_neg (by decide)]; exact hm
end
end Mine
end

section
theorem Mine.top_off_E1 : True := by
  w_top off
  trivial
local macro_rules | `(tactic| omega) => `(tactic| first | lia | omega (config := {}))
open PySem PySem.W PyProof.Rows PySem.Spec PySem.Calls
namespace Mine
theorem k_filled2 : (hd.heap_39 = hd.heap_39) ∧ (PySem.Challenge.rw_re0068_01 = PySem.Challenge.rw_re0068_01) := by
  k_fill
  exact ⟨rfl, rfl⟩

section
variable {prog : Program} {w : World} {A : Around} {E : Value → Shared → Prop} {s : Shared} {h₀ : Heap} {L : Addr} {m : PySem.Str → Option Value} {news : List (Addr × Obj)} {x y : PySem.Str} {t u : Tok} {Q : Value → Shared → Prop} {a b c d e : Str}
theorem split5 (hF : Fr h₀ L s.heap m) (hN : News h₀ L s.heap news) (hy : (y.length == 0) = false) (hs : Txt.split x y = [a, b, c, d, e])
    (h : ∀ D t0 t1 t2 t3 t4 h' k, Fr h₀ L h' m → News h₀ L h' ((D, listOf #[.str a t0, .str b t1, .str c t2, .str d t3, .str e t4] 0) :: news) → (∀ p ∈ news, p.1 < D) → Q (.ref D) { s with heap := h', toks := k }) (hsz : x.length + 2 ≤ sizeLine) :
    wpAny (model prog w) A (call (.builtin "str.split") [.str x t, .str y u]) Q E s := by
  refine KSpl.split1 hF hN hy (fun D l h' k e₁ _ F N lt => ?_) hsz
  rw [hs] at e₁
  obtain ⟨t0, l1, rfl, e1⟩ := KSpl.cons_of e₁
  obtain ⟨t1, l2, rfl, e2⟩ := KSpl.cons_of e1
  obtain ⟨t2, l3, rfl, e3⟩ := KSpl.cons_of e2
  obtain ⟨t3, l4, rfl, e4⟩ := KSpl.cons_of e3
  obtain ⟨t4, l5, rfl, e5⟩ := KSpl.cons_of e4
  have := KSpl.nil_of e5; subst this
  exact h D t0 t1 t2 t3 t4 h' k F N lt
end


open PySem.Builtin PySem.Builtin.Str in
theorem gives_find4 (x y : Str) (i j : Int) (t u v z : Tok) (hj : j = (x.length : Int)) : Gives («str.find» ⟨[.str x t, .str y u, .int i v, .int j z], []⟩) (.int (Txt.find3 x y i)) := by
  show Gives (match occurrences x y (fromIndex x.length i) (min (fromIndex x.length j) x.length) 1 with | k :: _ => retInt k | [] => (do rule "str.find.not-found"; retInt (-1))) _
  have e : fromIndex x.length j = x.length := by unfold fromIndex; subst hj; rw [if_neg (by omega)]; omega
  rw [e, Nat.min_self]
  unfold Txt.find3
  cases occurrences x y (fromIndex x.length i) x.length 1 with
  | nil => exact .rule (.of_eq rfl)
  | cons k _ => exact .of_eq rfl
theorem find4 {prog : Program} {w : World} {A : Around} {E : Value → Shared → Prop} {s : Shared} {x y : Str} {t u v z : Tok} {i j : Int} {Q : Value → Shared → Prop} (hj : j = (x.length : Int))
    (hq : -1 ≤ Txt.find3 x y i → Txt.find3 x y i ≤ x.length → Q (.int (Txt.find3 x y i) s.toks) { s with toks := s.toks + 1 }) : wpAny (model prog w) A (call (.builtin "str.find") [.str x t, .str y u, .int i v, .int j z]) Q E s :=
  call_gives F.slot_str_find (typeIs_str _ _ _) F.entry_str_find (F.args_str_find_4 _ _ _ _) (gives_find4 x y i j t u v z hj) (hq (fact_find3 x y i).1 (fact_find3 x y i).2)
local macro_rules | `(tactic| walk_at "call builtin:str.find") => `(tactic| (refine find4 (by first | rfl | omega) ?_; intro hlo hhi))
local macro_rules | `(tactic| walk_at "call builtin:str.split") => `(tactic| (refine split5 (by k_asm) (by k_asm) (by decide) (by assumption) ?_ (by rw [sizeLine_eq]; omega); intro D' t0 t1 t2 t3 t4 h' k' F' N' l1; (try k_lt l1)))


/-- what _ellipsis_match finds, place after place -/
noncomputable def ellF (x y g : Str) : Bool :=
  if Txt.find3 g (Str.ofString "") 0 < 0 then false
  else if Txt.find3 g x (Txt.find3 g (Str.ofString "") 0 + ((0 : Nat) : Int)) < 0 then false
  else if Txt.find3 g y (Txt.find3 g x (Txt.find3 g (Str.ofString "") 0 + ((0 : Nat) : Int)) + (x.length : Int)) < 0 then false
  else if Txt.find3 g x (Txt.find3 g y (Txt.find3 g x (Txt.find3 g (Str.ofString "") 0 + ((0 : Nat) : Int)) + (x.length : Int)) + (y.length : Int)) < 0 then false
  else if Txt.find3 g (Str.ofString "") (Txt.find3 g x (Txt.find3 g y (Txt.find3 g x (Txt.find3 g (Str.ofString "") 0 + ((0 : Nat) : Int)) + (x.length : Int)) + (y.length : Int)) + (x.length : Int)) < 0 then false
  else true
theorem ret_bool {Q : Value → Shared → Prop} {s : Shared} {b c : Bool} {h : Heap} {t : Nat} (ret : ∀ h' tk, Keeps s.heap h' → Q (.bool b) { s with heap := h', toks := tk }) (x : Keeps s.heap h) (e : b = c) : Q (.bool c) { s with heap := h, toks := t } := e ▸ ret h t x

theorem ell_spec {prog : Program} {w : World} {s : Shared} {p : Program} {loose : List Str} {mean : ExcName → Option Value} {mg mb : Str → Option Value} {Q E : Value → Shared → Prop}
    {want got x y : Str} {t₁ t₂ : Tok} (hl : got.length ≤ 64) (hw : want.length ≤ 64) (hx : x.length ≤ 64) (hy : y.length ≤ 64)
    (hs : Txt.split want (Str.ofString "...") = [Str.ofString "", x, y, x, Str.ofString ""]) (hi : (Builtin.Str.occurrences want (Str.ofString "...") 0 want.length 1).isEmpty = false)
    (X : (hd.heap_39 w.params).In s.heap) (T : Top p loose mean mg mb s.heap)
    (ret : ∀ h' tk, Keeps s.heap h' → Q (.bool (ellF x y got)) { s with heap := h', toks := tk }) :
    wpAny (model prog w) (AM 5) (call (.ref 21) [.str want t₁, .str got t₂]) Q E s := by
  revert prog w s p loose mean mg mb Q E want got x y t₁ t₂ hl hw hx hy hs hi X T ret
  show ∀ prog w s p loose mean mg mb Q E want got x y t₁ t₂ hl hw hx hy hs hi X T ret, _
  intro prog w s p loose mean mg mb Q E want got x y t₁ t₂
  intros hl hw hx hy hs hi X T ret
  k_dflt (refine' call_fn X T ?ho ?hcd ?hr ?hb ?hl ?_ ?c1 ?c2 ?c3 ?c4; (case ho => k_is); (case hcd => k_is); (case hr => decide); (case hb => exact BindsTo.of_eq rfl); (case hl => exact locs rfl); (case c1 => exact rfl); (case c2 => exact rfl); (case c3 => exact rfl); (case c4 => decide))
  intro L' h' F' N'
  (try dsimp only)
  skip
  k_steps
  all_goals exact ret_bool ret (Fr.keep (by assumption)) (by simp only [ellF, if_true, if_false, *])

section
variable {prog : Program} {w : World} {A : Around} {s : Shared} {p : Program} {loose : List Str} {mean : ExcName → Option Value} {mg mb : Str → Option Value} {Q E : Value → Shared → Prop} {h₀ : Heap} {L : Addr} {m : Str → Option Value} {news : List (Addr × Obj)}
theorem use_ell {want got x y : Str} {t₁ t₂ : Tok} (F : Fr h₀ L s.heap m) (N : News h₀ L s.heap news) (X : (hd.heap_39 w.params).In h₀) (T : Top p loose mean mg mb h₀) (hh : A.handled = none) (hdp : A.depth ≤ 350) (hun : A.units ≤ 500)
    (hl : got.length ≤ 64) (hw : want.length ≤ 64) (hx : x.length ≤ 64) (hy : y.length ≤ 64)
    (hs : Txt.split want (Str.ofString "...") = [Str.ofString "", x, y, x, Str.ofString ""]) (hi : (Builtin.Str.occurrences want (Str.ofString "...") 0 want.length 1).isEmpty = false)
    (ret : ∀ h' tk, Fr h₀ L h' m → News h₀ L h' news → Q (.bool (ellF x y got)) { s with heap := h', toks := tk }) :
    wpAny (model prog w) A (call (.ref 21) [.str want t₁, .str got t₂]) Q E s :=
  am_weak (n := 5) (ell_spec hl hw hx hy hs hi (X.keeps F.keep) (T.keeps F.keep) fun h' tk k => ret h' tk (fr_kp F k) (news_kp N k)) hh hdp hun
end
end Mine
end

section
theorem Mine.top_off_F1 : True := by
  w_top off
  trivial
local macro_rules | `(tactic| omega) => `(tactic| first | lia | omega (config := {}))
open PySem PySem.W PyProof.Rows PySem.Spec PySem.Calls
namespace Mine
theorem k_filled3 : (hd.heap_39 = hd.heap_39) ∧ (PySem.Challenge.rw_re0068_01 = PySem.Challenge.rw_re0068_01) := by
  k_fill
  exact ⟨rfl, rfl⟩

noncomputable def letters : List Str := [⟨#[97]⟩, ⟨#[32]⟩, ⟨#[35]⟩, ⟨#[98]⟩, ⟨#[58]⟩, ⟨#[45]⟩, ⟨#[9]⟩, ⟨#[44]⟩]
noncomputable def glue (x y : Str) : Str := Str.ofString "..." ++ x ++ Str.ofString "..." ++ y ++ Str.ofString "..." ++ x ++ Str.ofString "..."
theorem letters_len : ∀ x ∈ letters, x.length = 1 := by decide +kernel
theorem glue_len : ∀ x ∈ letters, ∀ y ∈ letters, (glue x y).length = 15 := by decide +kernel
theorem glue_split : ∀ x ∈ letters, ∀ y ∈ letters, Txt.split (glue x y) (Str.ofString "...") = [Str.ofString "", x, y, x, Str.ofString ""] := by decide +kernel
theorem glue_in : ∀ x ∈ letters, ∀ y ∈ letters, (Builtin.Str.occurrences (glue x y) (Str.ofString "...") 0 (glue x y).length 1).isEmpty = false := by decide +kernel


/-- what _law_fits asks of one k -/
noncomputable def fitK (row : Str) (es : List Int) (ns : List Str) (k : Int) : Prop :=
  ∀ i : Int, k < i → i < es.getD k.toNat 0 → ellF (ns.getD k.toNat Str.empty) (ns.getD i.toNat Str.empty) row = true
noncomputable def fitK1 (row : Str) (ns : List Str) (k i : Int) : Bool := ellF (ns.getD k.toNat Str.empty) (ns.getD i.toNat Str.empty) row
noncomputable def fitsF (row : Str) (es : List Int) (ns : List Str) : Bool :=
  (List.range ns.length).all fun k => (List.range (es.getD k 0).toNat).all fun i => decide (i ≤ k) || ellF (ns.getD k Str.empty) (ns.getD i Str.empty) row
local macro_rules | `(tactic| walk_at $k:str) => if ["pyIter ref", "InvEndN", "call ref"].contains k.getString then `(tactic| (refine hold_of ?_)) else Lean.Macro.throwUnsupported

theorem mem_rangeKs {a i : Int} {n : Nat} (h0 : a ≤ i) (h1 : i < a + n) : i ∈ rangeKs a n := by
  unfold rangeKs
  exact List.mem_map.mpr ⟨(i - a).toNat, List.mem_range.mpr (by omega), by omega⟩
theorem fits_false {row : Str} {es : List Int} {ns : List Str} {k i : Int} (h0 : 0 ≤ k) (h1 : k < ns.length) (h2 : k < i) (h3 : i < es.getD k.toNat 0)
    (h : ellF (ns.getD k.toNat Str.empty) (ns.getD i.toNat Str.empty) row = false) : fitsF row es ns = false := by
  cases hf : fitsF row es ns with
  | false => rfl
  | true =>
    exfalso
    unfold fitsF at hf
    have := List.all_eq_true.mp (List.all_eq_true.mp hf k.toNat (List.mem_range.mpr (by omega))) i.toNat (List.mem_range.mpr (by omega))
    rw [h, Bool.or_false, decide_eq_true_eq] at this
    omega
theorem fits_true {row : Str} {es : List Int} {ns : List Str} (h : ∀ k : Int, 0 ≤ k → k < ns.length → fitK row es ns k) : fitsF row es ns = true := by
  unfold fitsF
  refine List.all_eq_true.mpr fun k hk => List.all_eq_true.mpr fun i hi => ?_
  have hk := List.mem_range.mp hk
  have hi := List.mem_range.mp hi
  by_cases hc : i ≤ k
  · simp [hc]
  · have := h k (by omega) (by omega) i (by omega) (by simp only [Int.toNat_natCast]; omega)
    simp only [Int.toNat_natCast] at this
    rw [this, Bool.or_true]
theorem getD_letter {ns : List Str} (h : ∀ x ∈ ns, x ∈ letters) {i : Nat} (hi : i < ns.length) : ns.getD i Str.empty ∈ letters := by
  have e : ns.getD i Str.empty = ns[i] := by simp [List.getD, hi]
  rw [e]; exact h _ (List.getElem_mem _)
theorem fits_spec {prog : Program} {w : World} {s : Shared} {p : Program} {loose : List Str} {mean : ExcName → Option Value} {mg mb : Str → Option Value} {Q E : Value → Shared → Prop}
    {row : Str} {t₁ : Tok} {el nl : Addr} {evs nvs : List Value} {es : List Int} {ns : List Str} (hrow : row.length ≤ 64)
    (hel : s.heap.IsList el evs.toArray) (hes : IntsAre evs es) (hnl : s.heap.IsList nl nvs.toArray) (hns : StrsAre nvs ns) (hlet : ∀ x ∈ ns, x ∈ letters) (hn : ns.length ≤ 64) (hlen : es.length = ns.length) (hle : ∀ e ∈ es, 0 ≤ e ∧ e ≤ ns.length)
    (X : (hd.heap_39 w.params).In s.heap) (T : Top p loose mean mg mb s.heap)
    (ret : ∀ h' tk, Keeps s.heap h' → Q (.bool (fitsF row es ns)) { s with heap := h', toks := tk }) :
    wpAny (model prog w) (AM 4) (call (.ref 134) [.str row t₁, .ref el, .ref nl]) Q E s := by
  revert prog w s p loose mean mg mb Q E row t₁ el nl evs nvs es ns hrow hel hes hnl hns hlet hn hlen hle X T ret
  show ∀ prog w s p loose mean mg mb Q E row t₁ el nl evs nvs es ns hrow hel hes hnl hns hlet hn hlen hle X T ret, _
  intro prog w s p loose mean mg mb Q E row t₁ el nl evs nvs es ns
  intros hrow hel hes hnl hns hlet hn hlen hle X T ret
  k_dflt (refine' call_fn X T ?ho ?hcd ?hr ?hb ?hl ?_ ?c1 ?c2 ?c3 ?c4; (case ho => k_is); (case hcd => k_is); (case hr => decide); (case hb => exact BindsTo.of_eq rfl); (case hl => exact locs rfl); (case c1 => exact rfl); (case c2 => exact rfl); (case c3 => exact rfl); (case c4 => decide))
  intro L' h' F' N'
  (try dsimp only)
  skip
  k_steps
  (rename Fr _ _ _ _ => lF'); (rename News _ _ _ _ => lN'); (rename IsRange _ _ _ _ _ _ _ _ => rgX)
  refine hold_in (kst_range (σ := Unit) (fun _ => _) (fun _ => []) (fun _ => True) [Str.ofString "inner"] (fun pre _ => ∀ k ∈ pre, fitK row es ns k) () rfl rgX (small_one (by omega) (by omega) (by omega) (by omega)) (rangeSize_nat _ _) lF' lN' trivial (List.forall_mem_nil _) (List.forall_mem_nil _) ?_ ?_)
  · clear lF' lN'
    intro c pre k t u h tk own hk hpre hoff _ hP F' N'
    have hk0 : 0 ≤ k := by omega
    have hk1 : k < ns.length := by omega
    have hkb : k < 64 := by omega
    have heb : 0 ≤ es.getD k.toNat 0 ∧ es.getD k.toNat 0 ≤ ns.length := by
      have : k.toNat < es.length := by omega
      have e : es.getD k.toNat 0 = es[k.toNat] := by simp [List.getD, this]
      rw [e]
      exact hle _ (List.getElem_mem _)
    k_steps
    (rename Fr _ _ _ _ => lF'); (rename News _ _ _ _ => lN'); (rename IsRange _ _ _ _ _ _ _ _ => rgY)
    refine hold_in (kst_range (σ := Unit) (fun _ => _) (fun _ => []) (fun _ => True) [] (fun pre _ => ∀ i ∈ pre, ellF (ns.getD k.toNat Str.empty) (ns.getD i.toNat Str.empty) row = true) () rfl rgY (small_one (by omega) (by omega) (by omega) (by omega)) (rangeSize_nat _ _) lF' lN' trivial (List.forall_mem_nil _) (List.forall_mem_nil _) ?_ ?_)
    · clear lF' lN'
      intro c pre i t u h tk own hi hpre' hoff' _ hP' F' N'
      have hi0 : 0 ≤ i := by omega
      have hi1 : i < ns.length := by omega
      have hX := getD_letter hlet (i := k.toNat) (by omega)
      have hY := getD_letter hlet (i := i.toNat) (by omega)
      have hX1 := letters_len _ hX
      have hY1 := letters_len _ hY
      have hg := glue_len _ hX _ hY
      unfold glue at hg
      k_steps
      refine hold_in (use_ell (x := ns.getD k.toNat Str.empty) (y := ns.getD i.toNat Str.empty) (by assumption) (by assumption) X T rfl (Nat.le_of_ble_eq_true rfl) (Nat.le_of_ble_eq_true rfl) hrow (by omega) (by omega) (by omega) (glue_split _ hX _ hY) (glue_in _ hX _ hY) ?_)
      intro h' tk' F' N'
      k_steps
      · refine hold_in (kst_end () F' N' (fun _ h => List.mem_append_left _ h) (fun _ h => List.mem_append_right _ h) rfl trivial (List.forall_mem_nil _) (fun z hz _ _ => ?_) (fun j hj => ?_))
        · simp only [kstB, if_neg hz, List.contains_nil, Bool.false_eq_true, if_false]
        · rcases List.mem_append.mp hj with hj | hj
          · exact hP' j hj
          · rw [List.mem_singleton.mp hj]; simp_all
      · exact ret_bool ret F'.keep (fits_false (k := k) (i := i) hk0 hk1 (by omega) (by omega) (by simp_all))
    · clear lF' lN'
      intro c u h tk _ hP' F' N'
      k_steps
      refine hold_in (kst_end () F' N' (fun _ h => nomatch h) (fun _ h => h) rfl trivial (List.forall_mem_nil _) (fun z hz _ hc => ?_) (fun j hj => ?_))
      · have hz2 : z ≠ Str.ofString "inner" := by intro e; subst e; revert hc; decide
        simp only [kstB, if_neg hz, if_neg hz2, hc, List.contains_nil, Bool.false_eq_true, if_false]
      · rcases List.mem_append.mp hj with hj | hj
        · exact hP j hj
        · rw [List.mem_singleton.mp hj]
          intro i h1 h2
          exact hP' i (mem_rangeKs (by omega) (by omega))
  · clear lF' lN'
    intro c u h tk _ hP F' N'
    k_steps
    exact ret_bool ret F'.keep (fits_true fun k h0 h1 => hP k (mem_rangeKs (by omega) (by omega)))
end Mine
end

section
theorem Mine.top_off_R1 : True := by
  w_top off
  trivial
local macro_rules | `(tactic| walk_at "idle") => `(tactic| skip)
local macro_rules | `(tactic| omega) => `(tactic| first | lia | omega (config := {}))
open PySem PySem.W PyProof.Rows PySem.Spec PySem.Calls
namespace Mine
theorem k_filled4 : (hd.heap_39 = hd.heap_39) ∧ (PySem.Challenge.rw_re0068_01 = PySem.Challenge.rw_re0068_01) := by
  k_fill
  exact ⟨rfl, rfl⟩

noncomputable def popRun (es : List Int) (ns : List Str) (k : Int) : List Int → Str → List Int × Str
  | [], t => ([], t)
  | x :: r, t => if es.getD x.toNat 0 = k then popRun es ns k r (t ++ (Str.ofString ")" ++ ns.getD x.toNat Str.empty)) else (x :: r, t)
noncomputable def popAll (ns : List Str) : List Int → Str → Str
  | [], t => t
  | x :: r, t => popAll ns r (t ++ (Str.ofString ")" ++ ns.getD x.toNat Str.empty))
noncomputable def rowStep (es : List Int) (ns : List Str) (S : List Int × Str) (k : Int) : List Int × Str :=
  (k :: (popRun es ns k S.1 S.2).1, (popRun es ns k S.1 S.2).2 ++ (Str.ofString "(" ++ ns.getD k.toNat Str.empty))
noncomputable def rowF (es : List Int) (ns : List Str) : Str :=
  popAll ns ((rangeKs 0 ns.length).foldl (rowStep es ns) ([], Str.ofString "")).1 ((rangeKs 0 ns.length).foldl (rowStep es ns) ([], Str.ofString "")).2

theorem getD_last {l : List Int} (h : 0 < l.length) : l.getD (-1 + (l.length : Int)).toNat 0 = l.getLastD 0 := by
  obtain ⟨a, x, rfl⟩ : ∃ a x, l = a ++ [x] := by
    rcases List.eq_nil_or_concat l with rfl | ⟨a, x, rfl⟩
    · simp at h
    · exact ⟨a, x, by simp⟩
  have : (-1 + ((a ++ [x]).length : Int)).toNat = a.length := by simp; omega
  rw [this]
  simp [List.getD]
theorem getLastD_mem {l : List Int} (h : 0 < l.length) : l.getLastD 0 ∈ l := by
  rcases List.eq_nil_or_concat l with rfl | ⟨a, x, rfl⟩
  · simp at h
  · simp
theorem rev_last {l : List Int} (h : 0 < l.length) : l.reverse = l.getLastD 0 :: l.dropLast.reverse := by
  rcases List.eq_nil_or_concat l with rfl | ⟨a, x, rfl⟩
  · simp at h
  · simp

theorem ints_snoc {vs : List Value} {st : List Int} (h : IntsAre vs st) (k : Int) (t : Tok) : IntsAre (vs ++ [.int k t]) (st ++ [k]) := by
  induction h with
  | nil => exact .cons _ _ .nil
  | cons n u _ ih => exact .cons n u ih
theorem one_len (x : String) (h : (Str.ofString x).length = 1) : (Str.ofString x).length = 1 := h
theorem nil_no {l : List Int} (h : 0 < l.length) (e : decide (l = []) = true) : False := by
  rw [of_decide_eq_true e] at h; simp at h
theorem ret_str {Q : Value → Shared → Prop} {s : Shared} {b c : Str} {h : Heap} {t u : Nat} (ret : ∀ h' tk t, Keeps s.heap h' → Q (.str b t) { s with heap := h', toks := tk }) (x : Keeps s.heap h) (e : b = c) : Q (.str c u) { s with heap := h, toks := t } := e ▸ ret h t u x
structure RowS where
  txt : Str
  tt : Tok
  vs : List Value
  st : List Int
  nn : Nat
noncomputable def RowS.ok (n b : Nat) (c : RowS) : Prop := IntsAre c.vs c.st ∧ (∀ x ∈ c.st, 0 ≤ x ∧ x < (n : Int)) ∧ c.txt.length + 2 * c.st.length ≤ b

local macro_rules | `(tactic| walk_at $k:str) => if ["pyIter ref", "InvEndN", "KswEnd", "exec While BoolOp cons nil", "exec While Compare cons nil"].contains k.getString then `(tactic| (refine hold_of ?_)) else Lean.Macro.throwUnsupported

theorem row_spec {prog : Program} {w : World} {s : Shared} {p : Program} {loose : List Str} {mean : ExcName → Option Value} {mg mb : Str → Option Value} {Q E : Value → Shared → Prop}
    {el nl : Addr} {evs nvs : List Value} {es : List Int} {ns : List Str}
    (hel : s.heap.IsList el evs.toArray) (hes : IntsAre evs es) (hnl : s.heap.IsList nl nvs.toArray) (hns : StrsAre nvs ns) (hlet : ∀ x ∈ ns, x ∈ letters) (hn : ns.length ≤ 64) (hlen : es.length = ns.length)
    (X : (hd.heap_39 w.params).In s.heap) (T : Top p loose mean mg mb s.heap)
    (ret : ∀ h' tk t, Keeps s.heap h' → Q (.str (rowF es ns) t) { s with heap := h', toks := tk }) :
    wpAny (model prog w) (AM 4) (call (.ref 108) [.ref el, .ref nl]) Q E s := by
  revert prog w s p loose mean mg mb Q E el nl evs nvs es ns hel hes hnl hns hlet hn hlen X T ret
  show ∀ prog w s p loose mean mg mb Q E el nl evs nvs es ns hel hes hnl hns hlet hn hlen X T ret, _
  intro prog w s p loose mean mg mb Q E el nl evs nvs es ns
  intros hel hes hnl hns hlet hn hlen X T ret
  k_dflt (refine' call_fn X T ?ho ?hcd ?hr ?hb ?hl ?_ ?c1 ?c2 ?c3 ?c4; (case ho => k_is); (case hcd => k_is); (case hr => decide); (case hb => exact BindsTo.of_eq rfl); (case hl => exact locs rfl); (case c1 => exact rfl); (case c2 => exact rfl); (case c3 => exact rfl); (case c4 => decide))
  intro L' h' F' N'
  (try dsimp only)
  skip
  k_steps
  (rename Fr _ _ _ _ => lF'); (rename News _ _ _ _ => lN'); (rename IsRange _ _ _ _ _ _ _ _ => rgX)
  refine hold_in (kst_range (σ := RowS) (fun c => [(_, listOf c.vs.toArray c.nn)]) (fun c => [(Str.ofString "text", .str c.txt c.tt)]) (fun c => c.ok ns.length (4 * ns.length)) []
    (fun pre c => (c.st.reverse, c.txt) = pre.foldl (rowStep es ns) ([], Str.ofString "") ∧ c.txt.length + 2 * c.st.length ≤ 4 * pre.length) ⟨Str.ofString "", _, [], [], 0⟩ rfl rgX (small_one (by omega) (by omega) (by omega) (by omega)) (rangeSize_nat _ _) lF' lN' ⟨.nil, (fun _ h => nomatch h), Nat.zero_le _⟩ (List.forall_mem_cons.mpr ⟨rfl, List.forall_mem_nil _⟩) ⟨rfl, Nat.zero_le _⟩ ?_ ?_)
  · clear lF' lN'
    intros c
    obtain ⟨txt, tt, vs, st, nn⟩ := c
    revert txt tt vs st nn
    intro txt tt vs st nn pre k t u h tk own hk hpre hoff hok hP F' N'
    obtain ⟨hi, hb, hb2⟩ := hok
    revert hi hb hb2
    intro hi hb hb2
    obtain ⟨hP, hPl⟩ := hP
    revert hP hPl
    intro hP hPl
    dsimp only at hi hb hb2 hP hPl F' N'
    have hk0 : 0 ≤ k := by omega
    have hk1 : k < ns.length := by omega
    simp only [List.cons_append, List.nil_append] at N'
    k_steps
    refine hold_in (ksw_while (σ := RowS) (fun c => (_, listOf c.vs.toArray c.nn) :: own) (fun c => [(Str.ofString "text", .str c.txt c.tt)]) (fun c => c.ok ns.length (4 * pre.length)) []
      (fun c => popRun es ns k c.st.reverse c.txt = popRun es ns k st.reverse txt) (fun c => c.st.length) ⟨txt, tt, vs, st, nn⟩ F' N' ⟨hi, hb, hPl⟩ (List.forall_mem_cons.mpr ⟨rfl, List.forall_mem_nil _⟩) rfl ?_)
    clear F' N'
    intros c
    obtain ⟨txt', tt', vs', st', nn'⟩ := c
    revert txt' tt' vs' st' nn'
    intro txt' tt' vs' st' nn' u h tk hok hP' F' N'
    obtain ⟨hi', hb', hb2'⟩ := hok
    revert hi' hb' hb2'
    intro hi' hb' hb2'
    dsimp only at hi' hb' hb2' hP' F' N'
    have hil := IntsAre.length hi'
    have hkL := letters_len _ (getD_letter hlet (i := k.toNat) (by omega))
    have ea : (vs' ++ [Value.int k t]).toArray = vs'.toArray.push (Value.int k t) := by simp
    have hfin : popRun es ns k st'.reverse txt' = (st'.reverse, txt') → ((st' ++ [k]).reverse, txt' ++ (Str.ofString "(" ++ ns.getD k.toNat Str.empty)) = (pre ++ [k]).foldl (rowStep es ns) ([], Str.ofString "") := by
      intro hx
      rw [List.foldl_append, ← hP]
      show _ = rowStep es ns (st.reverse, txt) k
      unfold rowStep
      dsimp only
      rw [← hP', hx]
      simp
    rcases Nat.eq_zero_or_pos st'.length with hz | hz
    · have : st' = [] := List.length_eq_zero_iff.mp hz
      subst this
      cases hi'
      k_steps
      all_goals (
        (rename Fr _ _ _ _ => lF'); (rename News _ _ _ _ => lN')
        refine hold_in (kst_end ⟨txt' ++ (Str.ofString "(" ++ ns.getD k.toNat Str.empty), _, [] ++ [Value.int k t], [] ++ [k], nn' + 1⟩ lF' lN' (fun p hp => ?_) (fun _ h => .tail _ (.tail _ h)) rfl ⟨.cons _ _ .nil, (fun x hx => ?_), ?_⟩ (List.forall_mem_cons.mpr ⟨rfl, List.forall_mem_nil _⟩) (fun z hz1 hz2 _ => ?_) ⟨hfin rfl, ?_⟩)
        · cases hp with
          | head => exact .tail _ (.head _)
          | tail _ h => cases h
        · rw [List.mem_singleton.mp hx]; exact ⟨hk0, hk1⟩
        · simp only [Str.length_append, List.length_append, List.length_cons, List.length_nil, List.nil_append] at *; rw [one_len "(" rfl]; omega
        · have h2 := hz2 _ (.head _)
          simp only [kstB, if_neg hz1, if_neg h2, List.contains_nil, Bool.false_eq_true, if_false]
        · simp only [Str.length_append, List.length_append, List.length_cons, List.length_nil, List.nil_append] at *; rw [one_len "(" rfl]; omega)
    · have hz2 : 0 < vs'.length := by omega
      have e1 := getD_last (l := st') hz
      have hx := hb' _ (getLastD_mem (l := st') hz)
      have hx2 : 0 ≤ st'.getD (-1 + (st'.length : Int)).toNat 0 ∧ st'.getD (-1 + (st'.length : Int)).toNat 0 < ns.length := by rw [e1]; exact hx
      have hxL := letters_len _ (getD_letter hlet (i := (st'.getLastD 0).toNat) (by omega))
      k_steps
      all_goals (try exact (nil_no hz (by assumption)).elim)
      · (rename Fr _ _ _ _ => lF'); (rename News _ _ _ _ => lN')
        have ha : es.getD (st'.getD (-1 + (st'.length : Int)).toNat 0).toNat 0 = k := by assumption
        rw [e1] at ha
        refine hold_in (ksw_end ⟨txt' ++ (Str.ofString ")" ++ ns.getD (st'.getLastD 0).toNat Str.empty), _, vs'.dropLast, st'.dropLast, nn' + 1⟩ lF' lN' (fun p hp => .tail _ hp) ⟨by assumption, (fun x hx => hb' x (List.dropLast_subset _ hx)), ?_⟩ (List.forall_mem_cons.mpr ⟨rfl, List.forall_mem_nil _⟩) (fun z hz1 _ => ?_) ?_ ?_)
        · simp only [Str.length_append, List.length_dropLast]; rw [one_len ")" rfl]; omega
        · have h2 := hz1 _ (.head _)
          simp only [kstB, if_neg h2, List.contains_nil, Bool.false_eq_true, if_false]
        · rw [← hP', rev_last hz]
          show _ = popRun es ns k (_ :: _) _
          unfold popRun
          rw [if_pos ha]
          cases st'.dropLast.reverse <;> rfl
        · simp only [List.length_dropLast]; omega
      · (rename Fr _ _ _ _ => lF'); (rename News _ _ _ _ => lN')
        have ha : es.getD (st'.getD (-1 + (st'.length : Int)).toNat 0).toNat 0 ≠ k := by assumption
        rw [e1] at ha
        refine hold_in (kst_end ⟨txt' ++ (Str.ofString "(" ++ ns.getD k.toNat Str.empty), _, vs' ++ [Value.int k t], st' ++ [k], nn' + 1⟩ lF' lN' (fun p hp => ?_) (fun _ h => .tail _ (.tail _ h)) rfl ⟨ints_snoc hi' k t, (fun x hx => ?_), ?_⟩ (List.forall_mem_cons.mpr ⟨rfl, List.forall_mem_nil _⟩) (fun z hz1 hz2 _ => ?_) ⟨hfin ?_, ?_⟩)
        · cases hp with
          | head => rw [ea]; exact .tail _ (.head _)
          | tail _ h => cases h
        · rcases List.mem_append.mp hx with hx | hx
          · exact hb' x hx
          · rw [List.mem_singleton.mp hx]; exact ⟨hk0, hk1⟩
        · simp only [Str.length_append, List.length_append, List.length_cons, List.length_nil] at *; rw [one_len "(" rfl]; omega
        · have h2 := hz2 _ (.head _)
          simp only [kstB, if_neg hz1, if_neg h2, List.contains_nil, Bool.false_eq_true, if_false]
        · rw [rev_last hz]
          unfold popRun
          rw [if_neg ha]
        · simp only [Str.length_append, List.length_append, List.length_cons, List.length_nil] at *; rw [one_len "(" rfl]; omega
  · clear lF' lN'
    intros c
    obtain ⟨txt, tt, vs, st, nn⟩ := c
    revert txt tt vs st nn
    intro txt tt vs st nn u h tk hok hP F' N'
    obtain ⟨hi, hb, hb2⟩ := hok
    revert hi hb hb2
    intro hi hb hb2
    obtain ⟨hP, hPl⟩ := hP
    revert hP hPl
    intro hP hPl
    dsimp only at hi hb hb2 hP hPl F' N'
    k_steps
    refine hold_in (ksw_while (σ := RowS) (fun c => [(_, listOf c.vs.toArray c.nn)]) (fun c => [(Str.ofString "text", .str c.txt c.tt)]) (fun c => c.ok ns.length (4 * ns.length)) []
      (fun c => popAll ns c.st.reverse c.txt = popAll ns st.reverse txt) (fun c => c.st.length) ⟨txt, tt, vs, st, nn⟩ F' N' ⟨hi, hb, hb2⟩ (List.forall_mem_cons.mpr ⟨rfl, List.forall_mem_nil _⟩) rfl ?_)
    clear F' N'
    intros c
    obtain ⟨txt', tt', vs', st', nn'⟩ := c
    revert txt' tt' vs' st' nn'
    intro txt' tt' vs' st' nn' u h tk hok hP' F' N'
    obtain ⟨hi', hb', hb2'⟩ := hok
    revert hi' hb' hb2'
    intro hi' hb' hb2'
    dsimp only at hi' hb' hb2' hP' F' N'
    have hil := IntsAre.length hi'
    rcases Nat.eq_zero_or_pos st'.length with hz | hz
    · have : st' = [] := List.length_eq_zero_iff.mp hz
      subst this
      cases hi'
      k_steps
      have er : rowF es ns = txt' := by
        have e0 : ((ns.length : Int) - 0).toNat = ns.length := by omega
        rw [e0] at hP
        unfold rowF
        rw [← hP]
        exact hP'.symm
      exact ret_str ret (Fr.keep (by assumption)) er
    · have hz2 : 0 < vs'.length := by omega
      have hx := hb' _ (getLastD_mem (l := st') hz)
      have hxL := letters_len _ (getD_letter hlet (i := (st'.getLastD 0).toNat) (by omega))
      k_steps
      all_goals (try exact (nil_no hz (by assumption)).elim)
      (rename Fr _ _ _ _ => lF'); (rename News _ _ _ _ => lN')
      refine hold_in (ksw_end ⟨txt' ++ (Str.ofString ")" ++ ns.getD (st'.getLastD 0).toNat Str.empty), _, vs'.dropLast, st'.dropLast, nn' + 1⟩ lF' lN' (fun p hp => .tail _ hp) ⟨by assumption, (fun x hx => hb' x (List.dropLast_subset _ hx)), ?_⟩ (List.forall_mem_cons.mpr ⟨rfl, List.forall_mem_nil _⟩) (fun z hz1 _ => ?_) ?_ ?_)
      · simp only [Str.length_append, List.length_dropLast]; rw [one_len ")" rfl]; omega
      · have h2 := hz1 _ (.head _)
        simp only [kstB, if_neg h2, List.contains_nil, Bool.false_eq_true, if_false]
      · rw [← hP', rev_last hz]
        rfl
      · simp only [List.length_dropLast]; omega
end Mine
end

section
theorem Mine.top_off_ML : True := by
  w_top off
  trivial
local macro_rules | `(tactic| omega) => `(tactic| first | lia | omega (config := {}))
open PySem PySem.W PyProof.Rows PySem.Spec PySem.Calls
namespace Mine

noncomputable def GEnd {σ : Type} (h₀ : Heap) (L I : Addr) (oI : Obj) (s : Shared) (Led : σ → List (Addr × Obj)) (ps : σ → List (Str × Value)) (x : Str) (stored : List Str) (m₀ : Str → Option Value) (P : σ → Prop) (s₂ : Shared) : Prop :=
  ∃ (c : σ) (h' : Heap) (tk : Nat) (g : Array GenState) (m' : Str → Option Value) (news' : List (Addr × Obj)), s₂ = { s with heap := h', toks := tk, gens := g } ∧ (AllBare s.gens → AllBare g) ∧ Fr h₀ L h' m' ∧ News h₀ L h' news' ∧
    (∀ p ∈ Led c, p ∈ news') ∧ (I, oI) ∈ news' ∧ (∀ p ∈ Led c, p.1 ≠ I) ∧ (∀ p ∈ ps c, m' p.1 = some p.2) ∧ (∀ z, z ≠ x → (∀ p ∈ ps c, z ≠ p.1) → stored.contains z = false → m' z = m₀ z) ∧ P c
noncomputable def GPost (Q : Flow → Shared → Prop) (J : Shared → Prop) (f : Flow) (s₂ : Shared) : Prop := match f with
  | .ret v => Q (.ret v) s₂
  | .brk => Q .next s₂
  | _ => J s₂
theorem g_end {σ : Type} {h₀ : Heap} {L I : Addr} {oI : Obj} {s : Shared} {Led : σ → List (Addr × Obj)} {ps : σ → List (Str × Value)} {x : Str} {stored : List Str} {m₀ m' : Str → Option Value} {P : σ → Prop} {h' : Heap} {tk : Nat} {g : Array GenState} {news' : List (Addr × Obj)} (c : σ)
    (F : Fr h₀ L h' m') (N : News h₀ L h' news') (hg : AllBare s.gens → AllBare g) (hl : ∀ p ∈ Led c, p ∈ news') (hI : (I, oI) ∈ news') (hn : ∀ p ∈ Led c, p.1 ≠ I) (hk : ∀ p ∈ ps c, m' p.1 = some p.2)
    (hr : ∀ z, z ≠ x → (∀ p ∈ ps c, z ≠ p.1) → stored.contains z = false → m' z = m₀ z) (hp : P c) : GEnd h₀ L I oI s Led ps x stored m₀ P { s with heap := h', toks := tk, gens := g } :=
  ⟨c, h', tk, g, m', news', rfl, hg, F, N, hl, hI, hn, hk, hr, hp⟩

section
variable {prog : Program} {w : World} {A : Around} {E' : Value → Shared → Prop} {s : Shared} {env : Env} {h₀ : Heap} {x : Str} {px : Pos} {body : List Stmt} {Q : Flow → Shared → Prop}

theorem forG {σ : Type} {I : Addr} {fp : List Addr} {n : Nat} {Pv : Nat → Value → Prop} {St : Nat → Heap → Prop} {m₀ : Str → Option Value} (Led : σ → List (Addr × Obj)) (ps : σ → List (Str × Value)) (stored : List Str) (P : Nat → σ → Prop) (c₀ : σ)
    (W : Walks prog w A I fp [I] n Pv St) (hLf : env.locals ∉ fp) (hI₀ : h₀.get? I = none) (hI : ∀ i h, St i h → ∃ o, h.get? I = some o)
    (hfp : ∀ b ∈ fp, b = I ∨ (∃ o, h₀.get? b = some o) ∨ ∃ o, ∀ c, (b, o) ∈ Led c)
    (hst : St 0 s.heap) (F : Fr h₀ env.locals s.heap m₀) (N : News h₀ env.locals s.heap (Led c₀)) (hne : ∀ p ∈ Led c₀, p.1 ≠ I) (hk : ∀ p ∈ ps c₀, m₀ p.1 = some p.2) (h0 : P 0 c₀)
    (turn : ∀ (c : σ) i v (u : Str → Option Value) h tk g oI, i < n → Pv i v → P i c → (AllBare s.gens → AllBare g) → (∀ p ∈ Led c, p.1 ≠ I) →
      Fr h₀ env.locals h (fun y => if y = x then some v else kstB (fun z => if stored.contains z then u z else m₀ z) (ps c) y) → News h₀ env.locals h (Led c ++ [(I, oI)]) →
      wpAny (model prog w) A (execs body env) (GPost Q (GEnd h₀ env.locals I oI s Led ps x stored m₀ (P (i + 1)))) (fun _ _ => False) { s with heap := h, toks := tk, gens := g })
    (done : ∀ (c : σ) (u : Str → Option Value) h tk g, P n c → (AllBare s.gens → AllBare g) → Fr h₀ env.locals h (fun y => if y = x then u y else kstB (fun z => if stored.contains z then u z else m₀ z) (ps c) y) → News h₀ env.locals h (Led c) →
      Q .next { s with heap := h, toks := tk, gens := g })
    (hx : env.kindOf x = some .local) (hp : (env.scope.kind == .class || (env.scope.kind == .module && env.locals != env.globals)) = false) :
    codeAny (model prog w) A (.forLoop (.Name x px) (.ref I) body [] env) (fun r s' => match r with | .ok f => Q f s' | .error e => E' e s') s := by
  revert prog w A E' s env h₀ x px body Q I fp n Pv St m₀ Led ps stored P W hLf hI₀ hI hfp hst F N hne hk h0 turn done hx hp
  revert σ c₀
  show ∀ σ c₀ prog w A E' s env h₀ x px body Q I fp n Pv St m₀ Led ps stored P W hLf hI₀ hI hfp hst F N hne hk h0 turn done hx hp, _
  refine' no_implicit_lambda% (Mine.clS (P := ?P) ((?g : ∀ x0 x1, ?P x0 x1) (Mine.pkS ?P).1 (Mine.pkS ?P).2))
  intros σ c₀
  intro prog w A E' s env h₀ x px body Q I fp n Pv St m₀ Led ps stored P
  intros W hLf hI₀ hI hfp hst F N hne hk h0 turn done hx hp
  have hLI : env.locals ≠ I := fun e => hLf (e ▸ W.sub I (List.mem_singleton.mpr rfl))
  refine codeAny_forLoop
    (fun k s' => ∃ (c : σ) (h' : Heap) (tk : Nat) (g : Array GenState) (m' : Str → Option Value) (i : Nat), s' = { s with heap := h', toks := tk, gens := g } ∧ (AllBare s.gens → AllBare g) ∧ St i h' ∧ Fr h₀ env.locals h' m' ∧ News h₀ env.locals h' (Led c) ∧ (∀ p ∈ Led c, p.1 ≠ I) ∧
      (∀ p ∈ ps c, m' p.1 = some p.2) ∧ (∀ z, z ≠ x → (∀ p ∈ ps c, z ≠ p.1) → stored.contains z = false → m' z = m₀ z) ∧ P i c ∧ i ≤ n ∧ k = n + 1 - i) ?_ (n + 1)
    ⟨c₀, s.heap, s.toks, s.gens, m₀, 0, rfl, id, hst, F, N, hne, hk, fun _ _ _ _ => rfl, h0, Nat.zero_le _, rfl⟩
  intro k s' xo1
  obtain ⟨c, h', tk, g, m', i, hr6, hg, hst', F', N', hne', hk', hr', hP, hi, hr7⟩ := (xo1)
  revert c h' tk g m' i hr6 hg hst' F' N' hne' hk' hr' hP hi hr7
  intro c h' tk g m' i hr6 hg hst' F' N' hne' hk' hr' hP hi hr7
  obtain rfl := hr6
  obtain rfl := hr7
  have next : ∀ h₁ : Heap, (∀ b o, b ∉ [I] → h'.get? b = some o → h₁.get? b = some o) → Fr h₀ env.locals h₁ m' ∧ News h₀ env.locals h₁ (Led c) := fun h₁ hk₁ =>
    ⟨⟨F'.ns.at' fun o e => hk₁ _ o (fun q => hLI (List.mem_singleton.mp q)) e, fun b o e => hk₁ b o (fun q => by rw [List.mem_singleton.mp q, hI₀] at e; cases e) (F'.keep b o e), F'.above⟩,
      fun p hp => ⟨hk₁ _ _ (fun q => hne' p hp (List.mem_singleton.mp q)) (N' p hp).1, (N' p hp).2⟩⟩
  by_cases hlt : i < n
  · refine W.item i _ _ _ hlt hst' ?_
    intro v h₁ tk₁ hPv hst₁ hk₁
    obtain ⟨F₁, N₁⟩ := next h₁ hk₁
    revert F₁ N₁
    intro F₁ N₁
    refine wpAny_assign_Name (wpAny_storeName_local hx F₁.ns ?_ hp)
    intro h₂ hn₂ hs₂
    have F₂ := F₁.set hn₂ hs₂
    have hst₂ : St (i + 1) h₂ := W.frame _ _ _ hst₁ fun b hb o e => (hs₂.2 b fun q => hLf (q ▸ hb)).trans e
    obtain ⟨oI, hoI⟩ := hI _ _ hst₂
    revert oI hoI
    intro oI hoI
    have N₂ : News h₀ env.locals h₂ (Led c ++ [(I, oI)]) := fun p hp => (List.mem_append.mp hp).elim (fun q => (N₁.set hs₂) p q) fun q => by
      rw [List.mem_singleton.mp q]; exact ⟨hoI, Ne.symm hLI, hI₀⟩
    refine wpAny_mono (turn c i v m' h₂ _ g oI hlt hPv hP hg hne' (kst_fr hk' hr' F₂) N₂) ?_ fun _ _ e => e.elim
    intro f s₃ h₃
    have fin : GEnd h₀ env.locals I oI s Led ps x stored m₀ (P (i + 1)) s₃ → ∃ k', k' < n + 1 - i ∧ ∃ (c : σ) (h' : Heap) (tk : Nat) (g : Array GenState) (m' : Str → Option Value) (i : Nat), s₃ = { s with heap := h', toks := tk, gens := g } ∧ (AllBare s.gens → AllBare g) ∧ St i h' ∧ Fr h₀ env.locals h' m' ∧ News h₀ env.locals h' (Led c) ∧ (∀ p ∈ Led c, p.1 ≠ I) ∧
        (∀ p ∈ ps c, m' p.1 = some p.2) ∧ (∀ z, z ≠ x → (∀ p ∈ ps c, z ≠ p.1) → stored.contains z = false → m' z = m₀ z) ∧ P i c ∧ i ≤ n ∧ k' = n + 1 - i := by
      intro xo4
      obtain ⟨c', h₃', tk₃, g₃, m₃, news₃, hr8, hg₃, F₃, N₃, hl₃, hI₃, hn₃, hk₃, hr₃, hP₃⟩ := (xo4)
      revert c' h₃' tk₃ g₃ m₃ news₃ hr8 hg₃ F₃ N₃ hl₃ hI₃ hn₃ hk₃ hr₃ hP₃
      intro c' h₃' tk₃ g₃ m₃ news₃ hr8 hg₃ F₃ N₃ hl₃ hI₃ hn₃ hk₃ hr₃ hP₃
      obtain rfl := hr8
      refine ⟨n + 1 - (i + 1), by omega, c', h₃', tk₃, g₃, m₃, i + 1, rfl, hg₃, ?_, F₃, fun p hp => N₃ p (hl₃ p hp), hn₃, hk₃, hr₃, hP₃, hlt, rfl⟩
      refine W.frame _ _ _ hst₂ ?_
      intro b hb o e
      rcases hfp b hb with rfl | ⟨o₀, ho₀⟩ | ⟨o₀, ho₀⟩
      · rw [hoI] at e; cases e; exact (N₃ _ hI₃).1
      · have : o₀ = o := by have := F₂.keep b o₀ ho₀; rw [e] at this; exact (Option.some.inj this).symm
        exact this ▸ F₃.keep b o₀ ho₀
      · have : o₀ = o := by have := (N₂ _ (List.mem_append_left _ (ho₀ c))).1; rw [e] at this; exact (Option.some.inj this).symm
        exact this ▸ (N₃ _ (hl₃ _ (ho₀ c'))).1
    cases f with
    | ret v => exact h₃
    | brk => exact h₃
    | cont => exact fin h₃
    | next => exact fin h₃
  · have hin : i = n := by omega
    subst hin
    refine W.done _ _ _ hst' fun h₁ tk₁ hk₁ => wpAny_execs_nil ?_
    obtain ⟨F₁, N₁⟩ := next h₁ hk₁
    revert F₁ N₁
    intro F₁ N₁
    exact done c m' h₁ tk₁ g hP hg (kst_frOut hk' hr' F₁) N₁

/-- a range by a step of one, up or down -/
theorem forG_range {σ : Type} {r : Addr} {a₀ b₀ cs : Int} {t₀ u₀ v₀ : Tok} {n : Nat} {m₀ : Str → Option Value} {E : Value → Shared → Prop} (Led : σ → List (Addr × Obj)) (ps : σ → List (Str × Value)) (stored : List Str) (P : Nat → σ → Prop) (c₀ : σ)
    (hh : A.handled = none) (hr : IsRange s.heap r a₀ b₀ cs t₀ u₀ v₀) (hsmall : Builtin.Range.small a₀ b₀ cs = true) (hn : Builtin.Range.rangeSize a₀ b₀ cs = (n : Int))
    (F : Fr h₀ env.locals s.heap m₀) (N : News h₀ env.locals s.heap (Led c₀)) (hk : ∀ p ∈ ps c₀, m₀ p.1 = some p.2) (h0 : P 0 c₀)
    (turn : ∀ (c : σ) (i : Nat) (k : Int) t (u : Str → Option Value) h tk g I oI, i < n → k = a₀ + i * cs → P i c → (AllBare s.gens → AllBare g) → (∀ p ∈ Led c, p.1 ≠ I) →
      Fr h₀ env.locals h (fun y => if y = x then some (.int k t) else kstB (fun z => if stored.contains z then u z else m₀ z) (ps c) y) → News h₀ env.locals h (Led c ++ [(I, oI)]) →
      wpAny (model prog w) A (execs body env) (GPost Q (GEnd h₀ env.locals I oI s Led ps x stored m₀ (P (i + 1)))) (fun _ _ => False) { s with heap := h, toks := tk, gens := g })
    (done : ∀ (c : σ) (u : Str → Option Value) h tk g, P n c → (AllBare s.gens → AllBare g) → Fr h₀ env.locals h (fun y => if y = x then u y else kstB (fun z => if stored.contains z then u z else m₀ z) (ps c) y) → News h₀ env.locals h (Led c) →
      Q .next { s with heap := h, toks := tk, gens := g })
    (hx : env.kindOf x = some .local) (hp : (env.scope.kind == .class || (env.scope.kind == .module && env.locals != env.globals)) = false) :
    wpAny (model prog w) A (pyIter (.ref r)) (fun it s₂ => codeAny (model prog w) A (.forLoop (.Name x px) it body [] env) (fun r s' => match r with | .ok f => Q f s' | .error e => E' e s') s₂) E s := by
  refine wpAny_pyIter_range hr hsmall ?_
  refine forG (n := n) Led ps stored P c₀ (Walks.range hh s.heap.objs.size a₀ cs n) ?_ ?_ ?_ ?_ ?_ (F.push _) ?_ ?_ hk h0 ?_ ?_ hx hp
  · intros hm
    exact absurd F.ns.lt ((List.mem_singleton.mp hm) ▸ Nat.lt_irrefl _)
  · exact next_is_new F
  · intros i h st
    exact ⟨_, st⟩
  · intros b hb
    exact .inl (List.mem_singleton.mp hb)
  · show IsRangeIter _ _ _ _ _
    rw [hn]; simpa using Heap.get?_push_size _ rfl
  · exact fun p hp => ⟨Heap.get?_push_of_some _ (N p hp).1, (N p hp).2⟩
  · intros p hp e
    exact absurd (Heap.lt_size (N p hp).1) (e ▸ Nat.lt_irrefl _)
  · rintro c i v u h tk g oI hi ⟨t, rfl⟩ hP hg hne F₁ N₁
    exact turn c i _ t u h tk g _ oI hi rfl hP hg hne F₁ N₁
  · exact fun c u h tk g hP hg F₁ N₁ => done c u h tk g hP hg F₁ N₁

theorem forG_list {σ : Type} {ax : Addr} {items : Array Value} {m₀ : Str → Option Value} {E : Value → Shared → Prop} (Led : σ → List (Addr × Obj)) (ps : σ → List (Str × Value)) (stored : List Str) (P : Nat → σ → Prop) (c₀ : σ)
    (hh : A.handled = none) (hl : s.heap.IsList ax items) (hax : (∃ o, h₀.get? ax = some o) ∨ ∃ o, ∀ c, (ax, o) ∈ Led c) (haL : ax ≠ env.locals)
    (F : Fr h₀ env.locals s.heap m₀) (N : News h₀ env.locals s.heap (Led c₀)) (hk : ∀ p ∈ ps c₀, m₀ p.1 = some p.2) (h0 : P 0 c₀)
    (turn : ∀ (c : σ) (i : Nat) (v : Value) (u : Str → Option Value) h tk g I oI, i < items.size → items[i]? = some v → P i c → (AllBare s.gens → AllBare g) → (∀ p ∈ Led c, p.1 ≠ I) →
      Fr h₀ env.locals h (fun y => if y = x then some v else kstB (fun z => if stored.contains z then u z else m₀ z) (ps c) y) → News h₀ env.locals h (Led c ++ [(I, oI)]) →
      wpAny (model prog w) A (execs body env) (GPost Q (GEnd h₀ env.locals I oI s Led ps x stored m₀ (P (i + 1)))) (fun _ _ => False) { s with heap := h, toks := tk, gens := g })
    (done : ∀ (c : σ) (u : Str → Option Value) h tk g, P items.size c → (AllBare s.gens → AllBare g) → Fr h₀ env.locals h (fun y => if y = x then u y else kstB (fun z => if stored.contains z then u z else m₀ z) (ps c) y) → News h₀ env.locals h (Led c) →
      Q .next { s with heap := h, toks := tk, gens := g })
    (hx : env.kindOf x = some .local) (hp : (env.scope.kind == .class || (env.scope.kind == .module && env.locals != env.globals)) = false) :
    wpAny (model prog w) A (pyIter (.ref ax)) (fun it s₂ => codeAny (model prog w) A (.forLoop (.Name x px) it body [] env) (fun r s' => match r with | .ok f => Q f s' | .error e => E' e s') s₂) E s := by
  obtain ⟨ol, hol, _⟩ := id hl
  have hne : ax ≠ s.heap.objs.size := Nat.ne_of_lt (Heap.lt_size hol)
  refine wpAny_pyIter_list hl ?_
  refine forG (n := items.size) Led ps stored P c₀ (Walks.list hh s.heap.objs.size ax hne items) ?_ ?_ ?_ ?_ ⟨⟨_, Heap.get?_push_size _ rfl, rfl, rfl⟩, hl.at fun o e => Heap.get?_push_of_some _ e⟩ (F.push _) ?_ ?_ hk h0 ?_ ?_ hx hp
  · intros hm
    rcases List.mem_cons.mp hm with e | hm
    · exact absurd F.ns.lt (e ▸ Nat.lt_irrefl _)
    · exact haL (List.mem_singleton.mp hm).symm
  · exact next_is_new F
  · rintro i h ⟨⟨o, ho, _⟩, _⟩
    exact ⟨o, ho⟩
  · intros b hb
    rcases List.mem_cons.mp hb with e | hb
    · exact .inl e
    · rw [List.mem_singleton.mp hb]; exact .inr hax
  · exact fun p hp => ⟨Heap.get?_push_of_some _ (N p hp).1, (N p hp).2⟩
  · intros p hp e
    exact absurd (Heap.lt_size (N p hp).1) (e ▸ Nat.lt_irrefl _)
  · rintro c i v u h tk g oI hi hv hP hg hne F₁ N₁
    exact turn c i _ u h tk g _ oI hi hv hP hg hne F₁ N₁
  · exact fun c u h tk g hP hg F₁ N₁ => done c u h tk g hP hg F₁ N₁
end

noncomputable def WEnd {σ : Type} (h₀ : Heap) (L : Addr) (s : Shared) (Led : σ → List (Addr × Obj)) (ps : σ → List (Str × Value)) (stored : List Str) (m₀ : Str → Option Value) (P : σ → Prop) (μ : σ → Nat) (n : Nat) (s₂ : Shared) : Prop :=
  ∃ (c : σ) (h' : Heap) (tk : Nat) (g : Array GenState) (m' : Str → Option Value) (news' : List (Addr × Obj)), s₂ = { s with heap := h', toks := tk, gens := g } ∧ (AllBare s.gens → AllBare g) ∧ Fr h₀ L h' m' ∧ News h₀ L h' news' ∧
    (∀ p ∈ Led c, p ∈ news') ∧ (∀ p ∈ ps c, m' p.1 = some p.2) ∧ (∀ z, (∀ p ∈ ps c, z ≠ p.1) → stored.contains z = false → m' z = m₀ z) ∧ P c ∧ μ c < n
theorem w_end {σ : Type} {h₀ : Heap} {L : Addr} {s : Shared} {Led : σ → List (Addr × Obj)} {ps : σ → List (Str × Value)} {stored : List Str} {m₀ m' : Str → Option Value} {P : σ → Prop} {μ : σ → Nat} {n : Nat} {h' : Heap} {tk : Nat} {g : Array GenState} {news' : List (Addr × Obj)} (c : σ)
    (F : Fr h₀ L h' m') (N : News h₀ L h' news') (hg : AllBare s.gens → AllBare g) (hl : ∀ p ∈ Led c, p ∈ news') (hk : ∀ p ∈ ps c, m' p.1 = some p.2)
    (hr : ∀ z, (∀ p ∈ ps c, z ≠ p.1) → stored.contains z = false → m' z = m₀ z) (hp : P c) (hm : μ c < n) : WEnd h₀ L s Led ps stored m₀ P μ n { s with heap := h', toks := tk, gens := g } :=
  ⟨c, h', tk, g, m', news', rfl, hg, F, N, hl, hk, hr, hp, hm⟩
section
variable {prog : Program} {w : World} {A : Around} {s : Shared} {env : Env} {h₀ : Heap} {L : Addr} {body : List Stmt} {Q : Flow → Shared → Prop}
theorem whileG {σ : Type} {test : Expr} {pos : Pos} {m₀ : Str → Option Value} (Led : σ → List (Addr × Obj)) (ps : σ → List (Str × Value)) (stored : List Str) (P : σ → Prop) (μ : σ → Nat) (c₀ : σ)
    (F : Fr h₀ L s.heap m₀) (N : News h₀ L s.heap (Led c₀)) (hk : ∀ p ∈ ps c₀, m₀ p.1 = some p.2) (hp : P c₀)
    (turn : ∀ (c : σ) (u : Str → Option Value) h tk g, P c → (AllBare s.gens → AllBare g) → Fr h₀ L h (kstB (fun z => if stored.contains z then u z else m₀ z) (ps c)) → News h₀ L h (Led c) →
      wpAny (model prog w) A (isTrue test env (eval test env)) (fun b s₂ =>
        if b = true then wpAny (model prog w) A (execs body env) (GPost Q (WEnd h₀ L s Led ps stored m₀ P μ (μ c))) (fun _ _ => False) s₂ else Q .next s₂) (fun _ _ => False) { s with heap := h, toks := tk, gens := g }) :
    wpAny (model prog w) A (exec (.While test body [] pos) env) Q (fun _ _ => False) s := by
  revert prog w A s env h₀ L body Q test pos m₀ Led ps stored P μ F N hk hp turn
  revert σ c₀
  show ∀ σ c₀ prog w A s env h₀ L body Q test pos m₀ Led ps stored P μ F N hk hp turn, _
  refine' no_implicit_lambda% (Mine.clS (P := ?P) ((?g : ∀ x0 x1, ?P x0 x1) (Mine.pkS ?P).1 (Mine.pkS ?P).2))
  intros σ c₀
  intro prog w A s env h₀ L body Q test pos m₀ Led ps stored P μ
  intros F N hk hp turn
  refine wpAny_While (codeAny_whileLoop (fun n s' => ∃ (c : σ) (h' : Heap) (tk : Nat) (g : Array GenState) (m' : Str → Option Value), s' = { s with heap := h', toks := tk, gens := g } ∧ (AllBare s.gens → AllBare g) ∧ Fr h₀ L h' m' ∧ News h₀ L h' (Led c) ∧
    (∀ p ∈ ps c, m' p.1 = some p.2) ∧ (∀ z, (∀ p ∈ ps c, z ≠ p.1) → stored.contains z = false → m' z = m₀ z) ∧ P c ∧ μ c = n) ?_ (μ c₀) ⟨c₀, s.heap, s.toks, s.gens, m₀, rfl, id, F, N, hk, fun _ _ _ => rfl, hp, rfl⟩)
  intro n s' xo9
  obtain ⟨c, h', tk, g, m', hr14, hg, F', N', hk', hr', hP, hr15⟩ := (xo9)
  revert c h' tk g m' hr14 hg F' N' hk' hr' hP hr15
  intro c h' tk g m' hr14 hg F' N' hk' hr' hP hr15
  obtain rfl := hr14
  obtain rfl := hr15
  refine wpAny_mono (turn c m' h' tk g hP hg (ksw_fr hk' hr' F') N') ?_ fun _ _ e => e.elim
  intro b s₂ p
  cases b with
  | false => exact wpAny_execs_nil (by simpa using p)
  | true =>
    simp only [if_true] at p ⊢
    refine wpAny_mono p ?_ fun _ _ e => e.elim
    intro f s₃ q
    have fin : WEnd h₀ L s Led ps stored m₀ P μ (μ c) s₃ → ∃ k, k < μ c ∧ ∃ (c : σ) (h' : Heap) (tk : Nat) (g : Array GenState) (m' : Str → Option Value), s₃ = { s with heap := h', toks := tk, gens := g } ∧ (AllBare s.gens → AllBare g) ∧ Fr h₀ L h' m' ∧ News h₀ L h' (Led c) ∧
        (∀ p ∈ ps c, m' p.1 = some p.2) ∧ (∀ z, (∀ p ∈ ps c, z ≠ p.1) → stored.contains z = false → m' z = m₀ z) ∧ P c ∧ μ c = k := by
      intro xo12
      obtain ⟨c', h₃, tk₃, g₃, m₃, news₃, hr16, hg₃, F₃, N₃, hl₃, hk₃, hr₃, hP₃, hm₃⟩ := (xo12)
      revert c' h₃ tk₃ g₃ m₃ news₃ hr16 hg₃ F₃ N₃ hl₃ hk₃ hr₃ hP₃ hm₃
      intro c' h₃ tk₃ g₃ m₃ news₃ hr16 hg₃ F₃ N₃ hl₃ hk₃ hr₃ hP₃ hm₃
      obtain rfl := hr16
      exact ⟨μ c', hm₃, c', h₃, tk₃, g₃, m₃, rfl, hg₃, F₃, fun p hp => N₃ p (hl₃ p hp), hk₃, hr₃, hP₃, rfl⟩
    cases f with
    | ret v => exact q
    | brk => exact q
    | cont => exact fin q
    | next => exact fin q
end
end Mine
end

section
theorem Mine.top_off_GF : True := by
  w_top off
  trivial
local macro_rules | `(tactic| omega) => `(tactic| first | lia | omega (config := {}))
open PySem PySem.W PyProof.Rows PySem.Spec PySem.Calls
namespace Mine

noncomputable def CEnd {σ : Type} (h₀ : Heap) (L : Addr) (s : Shared) (gn : Array GenState) (O : List (Addr × Obj)) (ps : σ → List (Str × Value)) (stored : List Str) (m₀ : Str → Option Value) (P : σ → Prop) (s₂ : Shared) : Prop :=
  ∃ (c : σ) (h' : Heap) (tk : Nat) (m' : Str → Option Value) (news' : List (Addr × Obj)), s₂ = { s with heap := h', toks := tk, gens := gn } ∧ Fr h₀ L h' m' ∧ News h₀ L h' news' ∧ (∀ p ∈ O, p ∈ news') ∧
    (∀ p ∈ ps c, m' p.1 = some p.2) ∧ (∀ z, z ≠ Str.ofString "ch" → z ≠ Str.ofString "pos" → (∀ p ∈ ps c, z ≠ p.1) → stored.contains z = false → m' z = m₀ z) ∧ P c
theorem c_end {σ : Type} {h₀ : Heap} {L : Addr} {s : Shared} {gn : Array GenState} {O : List (Addr × Obj)} {ps : σ → List (Str × Value)} {stored : List Str} {m₀ m' : Str → Option Value} {P : σ → Prop} {h' : Heap} {tk : Nat} {news' : List (Addr × Obj)} (c : σ)
    (F : Fr h₀ L h' m') (N : News h₀ L h' news') (hl : ∀ p ∈ O, p ∈ news') (hk : ∀ p ∈ ps c, m' p.1 = some p.2)
    (hr : ∀ z, z ≠ Str.ofString "ch" → z ≠ Str.ofString "pos" → (∀ p ∈ ps c, z ≠ p.1) → stored.contains z = false → m' z = m₀ z) (hp : P c) : CEnd h₀ L s gn O ps stored m₀ P { s with heap := h', toks := tk, gens := gn } :=
  ⟨c, h', tk, m', news', rfl, F, N, hl, hk, hr, hp⟩

/-- the object that stands for a generator -/
noncomputable def genObj (g : Nat) (nm qn : Value) : Obj := { cls := .type "generator", data := .fields #[.int g 0, nm, qn] }

section
variable {prog : Program} {w : World} {A : Around} {E' : Value → Shared → Prop} {s : Shared} {env : Env} {h₀ : Heap} {q1 q2 q3 : Pos} {k0 : Nat} {body : List Stmt} {Q : Flow → Shared → Prop} {x : Str} {L G : Addr} {g : Nat} {nm qn : Value}

theorem letGo_gen {E : Value → Shared → Prop} {elts : List Expr} {v : Value} {R : Unit → Shared → Prop} (hG : s.heap.get? G = some (genObj g nm qn)) (h : R () s) : wpAny (model prog w) A (letOwnedTupleGo (.Tuple elts k0 q3) (.ref G) v) R E s := by
  unfold letOwnedTupleGo
  cases v <;> first | exact wpAny_pure h | skip
  refine wpAny_bind (wpAny_load hG ?_)
  show wpAny _ _ (if (["enumerate", "zip", "dict_itemiterator", "dict_reverseitemiterator", "odict_iterator", "itertools.zip_longest", "itertools.pairwise"].contains "generator" && _) = true then _ else _) _ _ _
  rw [if_neg (by simp)]
  exact wpAny_pure h

theorem gens_set {a : Array GenState} {g : Nat} {y z : GenState} (hg : a[g]? = some y) : (a.setIfInBounds g z)[g]? = some z := by
  have : g < a.size := by
    rcases Nat.lt_or_ge g a.size with h | h
    · exact h
    · rw [Array.getElem?_eq_none h] at hg; cases hg
  simp [Array.getElem?_setIfInBounds, this]
theorem gens_off {a : Array GenState} {g j : Nat} {z : GenState} (h : j ≠ g) : (a.setIfInBounds g z)[j]? = a[j]? := by
  rw [Array.getElem?_setIfInBounds, if_neg (fun e => h e.symm)]

theorem forGen {σ : Type} {m₀ : Str → Option Value} {O₀ : List (Addr × Obj)} {gs₀ : GenState} (ps : σ → List (Str × Value)) (stored : List Str) (P : Nat → σ → Prop) (c₀ : σ)
    (hh : A.handled = none) (hroom : A.depth < recursionLimit) (hlim : h₀.NoLimit)
    (F : Fr h₀ env.locals s.heap m₀) (hG : s.heap.get? G = some (genObj g nm qn)) (hcL : env.locals < L) (hLG : L < G)
    (hO : GO O₀ s) (hOl : ∀ p ∈ O₀, p.1 = L ∨ G < p.1) (hgs : s.gens[g]? = some gs₀)
    (hgo : ∀ s'' : Shared, GO O₀ s'' → Keeps h₀ s''.heap → s''.heap.get? G = some (genObj g nm qn) → gs₀.Goes (model prog w) A.in1 (RE L G) (YP x h₀ L G) x.cps.size (.send .none) s'')
    (hk : ∀ p ∈ ps c₀, m₀ p.1 = some p.2) (h0 : P 0 c₀)
    (turn : ∀ (c : σ) (i ch : Nat) (u : Str → Option Value) h tk gn O t₁ t₂, x.cps[i]? = some ch → P i c →
      Fr h₀ env.locals h (fun y => if y = Str.ofString "ch" then some (.str ⟨#[ch]⟩ t₂) else if y = Str.ofString "pos" then some (.int i t₁) else kstB (fun z => if stored.contains z then u z else m₀ z) (ps c) y) →
      News h₀ env.locals h ((G, genObj g nm qn) :: O) →
      wpAny (model prog w) A (execs body env) (GPost Q (CEnd h₀ env.locals s gn ((G, genObj g nm qn) :: O) ps stored m₀ (P (i + 1)))) (fun _ _ => False) { s with heap := h, toks := tk, gens := gn })
    (done : ∀ (c : σ) (u : Str → Option Value) h tk gn, P x.cps.size c → ((∀ (j : Nat) y, j ≠ g → s.gens[j]? = some y → y.bare = true) → AllBare gn) →
      Fr h₀ env.locals h (fun y => if y = Str.ofString "ch" then u y else if y = Str.ofString "pos" then u y else kstB (fun z => if stored.contains z then u z else m₀ z) (ps c) y) → Q .next { s with heap := h, toks := tk, gens := gn })
    (kP : env.kindOf (Str.ofString "pos") = some .local) (kC : env.kindOf (Str.ofString "ch") = some .local)
    (hp : (env.scope.kind == .class || (env.scope.kind == .module && env.locals != env.globals)) = false) :
    codeAny (model prog w) A (.forLoop (.Tuple [.Name (Str.ofString "pos") q1, .Name (Str.ofString "ch") q2] k0 q3) (.ref G) body [] env) (fun r s' => match r with | .ok f => Q f s' | .error e => E' e s') s := by
  revert prog w A E' s env h₀ q1 q2 q3 k0 body Q x L G g nm qn m₀ O₀ gs₀ ps stored P hh hroom hlim F hG hcL hLG hO hOl hgs hgo hk h0 turn done kP kC hp
  revert σ c₀
  show ∀ σ c₀ prog w A E' s env h₀ q1 q2 q3 k0 body Q x L G g nm qn m₀ O₀ gs₀ ps stored P hh hroom hlim F hG hcL hLG hO hOl hgs hgo hk h0 turn done kP kC hp, _
  refine' no_implicit_lambda% (Mine.clS (P := ?P) ((?g : ∀ x0 x1, ?P x0 x1) (Mine.pkS ?P).1 (Mine.pkS ?P).2))
  intros σ c₀
  intro prog w A E' s env h₀ q1 q2 q3 k0 body Q x L G g nm qn m₀ O₀ gs₀ ps stored P
  intros hh hroom hlim F hG hcL hLG hO hOl hgs hgo hk h0 turn done kP kC hp
  have hcG : env.locals < G := Nat.lt_trans hcL hLG
  have hab : h₀.objs.size ≤ env.locals := F.above
  have hG₀ : h₀.get? G = none := Heap.get?_none_of_le (Nat.le_trans hab (Nat.le_of_lt hcG))
  have frL : ∀ {s₁ s₂ : Shared} {m : Str → Option Value}, KeptLow L G s₁ s₂ → Fr h₀ env.locals s₁.heap m → Fr h₀ env.locals s₂.heap m := fun k F =>
    ⟨F.ns.at' fun o e => k.2 _ o (Nat.ne_of_lt hcL) (Nat.le_of_lt hcG) e, fun b o e => k.2 b o (Nat.ne_of_lt (Nat.lt_trans (Nat.lt_of_lt_of_le (Heap.lt_size e) hab) hcL)) (Nat.le_of_lt (Nat.lt_trans (Nat.lt_of_lt_of_le (Heap.lt_size e) hab) hcG)) (F.keep b o e), F.above⟩
  refine codeAny_forLoop_any ((fun k s' => ∃ (c : σ) (h' : Heap) (tk : Nat) (gn : Array GenState) (m' : Str → Option Value) (O : List (Addr × Obj)) (gs : GenState) (i : Nat), s' = { s with heap := h', toks := tk, gens := gn } ∧
      (∀ (j : Nat), j ≠ g → gn[j]? = s.gens[j]?) ∧ gn[g]? = some gs ∧ Fr h₀ env.locals h' m' ∧ h'.get? G = some (genObj g nm qn) ∧ (∀ p ∈ O, h'.get? p.1 = some p.2) ∧ (∀ p ∈ O, p.1 = L ∨ G < p.1) ∧
      (∀ s'' : Shared, GO O s'' → Keeps h₀ s''.heap → s''.heap.get? G = some (genObj g nm qn) → gs.Goes (model prog w) A.in1 (RE L G) (YP x h₀ L G) (x.cps.size - i) (.send .none) s'') ∧
      (∀ p ∈ ps c, m' p.1 = some p.2) ∧ (∀ z, z ≠ Str.ofString "ch" → z ≠ Str.ofString "pos" → (∀ p ∈ ps c, z ≠ p.1) → stored.contains z = false → m' z = m₀ z) ∧ P i c ∧ i ≤ x.cps.size ∧ k = x.cps.size + 1 - i) : Nat → Shared → Prop) ?_ (x.cps.size + 1)
    ⟨c₀, s.heap, s.toks, s.gens, m₀, O₀, gs₀, 0, rfl, fun _ _ => rfl, hgs, F, hG, hO, hOl, hgo, hk, fun _ _ _ _ _ => rfl, h0, Nat.zero_le _, rfl⟩
  intro k s' xo1
  obtain ⟨c, h', tk, gn, m', O, gs, i, hr9, hoff, hgs', F', hG', hO', hOl', hgo', hk', hr', hP, hi, hr10⟩ := (xo1)
  revert c h' tk gn m' O gs i hr9 hoff hgs' F' hG' hO' hOl' hgo' hk' hr' hP hi hr10
  intro c h' tk gn m' O gs i hr9 hoff hgs' F' hG' hO' hOl' hgo' hk' hr' hP hi hr10
  obtain rfl := hr9
  obtain rfl := hr10
  have hm' : ∀ y, y ≠ Str.ofString "ch" → y ≠ Str.ofString "pos" → kstB (fun z => if stored.contains z then m' z else m₀ z) (ps c) y = m' y := fun y h1 h2 => by
    refine kstB_eq hk' ?_
    intro hn
    show (if stored.contains y = true then m' y else m₀ y) = m' y
    cases h3 : stored.contains y with
    | true => simp
    | false => simp only [Bool.false_eq_true, if_false]; exact (hr' y h1 h2 hn h3).symm
  refine wpAny_pyNext_gen (n := x.cps.size - i) (P := RP L G) (Y := YP x h₀ L G) hh (hlim.keeps F'.keep) hroom ⟨_, nm, qn, hG', rfl, rfl, rfl⟩ hgs' (hgo' _ hO' F'.keep hG') ?_ ?_
  · intro v s₁ gs' xo4
    obtain ⟨O₁, T, t₁, t₂, ch, hn1, hch, hr11, hT, hkl, hOl₁, hO₁, hT1, hT2, hkap⟩ := (xo4)
    revert O₁ T t₁ t₂ ch hn1 hch hr11 hT hkl hOl₁ hO₁ hT1 hT2 hkap
    intro O₁ T t₁ t₂ ch hn1 hch hr11 hT hkl hOl₁ hO₁ hT1 hT2 hkap
    obtain rfl := hr11
    have F₁ : Fr h₀ env.locals s₁.heap m' := frL hkl F'
    have hG₁ : s₁.heap.get? G = some (genObj g nm qn) := hkl.2 G _ (Nat.ne_of_gt hLG) (Nat.le_refl _) hG'
    by_cases hlt : i < x.cps.size
    · obtain ⟨⟨h₁, tk₁, hr12⟩, xu13⟩ := hkl
      revert xu13 h₁ tk₁ hr12
      intro xu13 h₁ tk₁ hr12
      obtain rfl := hr12
      have idx : x.cps.size - 1 - (x.cps.size - i - 1) = i := by omega
      rw [idx] at hch hT
      refine letGo_gen hG₁ ?_
      refine wpAny_assign_Tuple hh (t := T) (items := #[.int i t₁, .str ⟨#[ch]⟩ t₂]) ⟨_, hT, rfl, _, rfl⟩ rfl rfl ?_
      intro h₃ hx₃
      replace hx₃ : Heap.ExtBut h₁.objs.size h₁ h₃ := hx₃
      have up₃ : ∀ b o, h₁.get? b = some o → h₃.get? b = some o := fun b o e => hx₃ b o (Nat.ne_of_lt (Heap.lt_size e)) e
      have F₃ : Fr h₀ env.locals h₃ m' := fr_kp F₁ up₃
      show wpAny _ _ (do holding [Value.str ⟨#[ch]⟩ t₂] (assign (.Name (Str.ofString "pos") q1) env (.int i t₁)); do holding [] (assign (.Name (Str.ofString "ch") q2) env (.str ⟨#[ch]⟩ t₂)); pure ()) _ _ _
      refine wpAny_bind (wpAny_holding (wpAny_assign_Name (wpAny_storeName_local kP F₃.ns ?_ hp)))
      intro h₄ hn₄ hs₄
      replace hs₄ : Heap.SameBut env.locals h₃ h₄ := hs₄
      have F₄ := F₃.set hn₄ hs₄
      refine wpAny_bind (wpAny_holding (wpAny_assign_Name (wpAny_storeName_local kC F₄.ns (fun h₅ hn₅ hs₅ => wpAny_pure ?_) hp)))
      replace hs₅ : Heap.SameBut env.locals h₄ h₅ := hs₅
      have F₅ := F₄.set hn₅ hs₅
      have up₅ : ∀ b o, b ≠ env.locals → h₁.get? b = some o → h₅.get? b = some o := fun b o hb e => (hs₅.2 b hb).trans ((hs₄.2 b hb).trans (up₃ b o e))
      have hneO : ∀ p ∈ O₁, p.1 ≠ env.locals := fun p hp => (hOl₁ p hp).elim (fun e => by rw [e]; exact Nat.ne_of_gt hcL) fun e => Nat.ne_of_gt (Nat.lt_trans hcG e)
      have hnwO : ∀ p ∈ O₁, h₀.get? p.1 = none := fun p hp => (hOl₁ p hp).elim (fun e => by rw [e]; exact Heap.get?_none_of_le (Nat.le_trans hab (Nat.le_of_lt hcL))) fun e => Heap.get?_none_of_le (Nat.le_trans hab (Nat.le_of_lt (Nat.lt_trans hcG e)))
      have N₅ : News h₀ env.locals h₅ ((G, genObj g nm qn) :: O₁) := fun p hp => by
        rcases List.mem_cons.mp hp with rfl | hp
        · exact ⟨up₅ _ _ (Nat.ne_of_gt hcG) hG₁, Nat.ne_of_gt hcG, hG₀⟩
        · exact ⟨up₅ _ _ (hneO p hp) (hO₁ p hp), hneO p hp, hnwO p hp⟩
      have F₆ : Fr h₀ env.locals h₅ (fun y => if y = Str.ofString "ch" then some (.str ⟨#[ch]⟩ t₂) else if y = Str.ofString "pos" then some (.int i t₁) else kstB (fun z => if stored.contains z then m' z else m₀ z) (ps c) y) := by
        have em : (fun y => if y = Str.ofString "ch" then some (Value.str ⟨#[ch]⟩ t₂) else if y = Str.ofString "pos" then some (Value.int i t₁) else kstB (fun z => if stored.contains z then m' z else m₀ z) (ps c) y) =
            fun y => if y = Str.ofString "ch" then some (Value.str ⟨#[ch]⟩ t₂) else if y = Str.ofString "pos" then some (Value.int i t₁) else m' y := by
          funext y
          by_cases h1 : y = Str.ofString "ch"
          · simp only [if_pos h1]
          · by_cases h2 : y = Str.ofString "pos"
            · simp only [if_neg h1, if_pos h2]
            · simp only [if_neg h1, if_neg h2]; exact hm' y h1 h2
        rw [em]; exact F₅
      have hgn : ((gn.setIfInBounds g .running).setIfInBounds g gs')[g]? = some gs' := gens_set (gens_set hgs')
      have hgoff : ∀ (j : Nat), j ≠ g → ((gn.setIfInBounds g .running).setIfInBounds g gs')[j]? = s.gens[j]? := fun j hj => by rw [gens_off hj, gens_off hj]; exact hoff j hj
      refine wpAny_mono (turn c i ch m' h₅ _ ((gn.setIfInBounds g .running).setIfInBounds g gs') O₁ t₁ t₂ hch hP F₆ N₅) ?_ fun _ _ q => q.elim
      intro f s₃ h₃
      have fin : CEnd h₀ env.locals s ((gn.setIfInBounds g .running).setIfInBounds g gs') ((G, genObj g nm qn) :: O₁) ps stored m₀ (P (i + 1)) s₃ → ∃ k', k' < x.cps.size + 1 - i ∧ ((fun k s' => ∃ (c : σ) (h' : Heap) (tk : Nat) (gn : Array GenState) (m' : Str → Option Value) (O : List (Addr × Obj)) (gs : GenState) (i : Nat), s' = { s with heap := h', toks := tk, gens := gn } ∧
      (∀ (j : Nat), j ≠ g → gn[j]? = s.gens[j]?) ∧ gn[g]? = some gs ∧ Fr h₀ env.locals h' m' ∧ h'.get? G = some (genObj g nm qn) ∧ (∀ p ∈ O, h'.get? p.1 = some p.2) ∧ (∀ p ∈ O, p.1 = L ∨ G < p.1) ∧
      (∀ s'' : Shared, GO O s'' → Keeps h₀ s''.heap → s''.heap.get? G = some (genObj g nm qn) → gs.Goes (model prog w) A.in1 (RE L G) (YP x h₀ L G) (x.cps.size - i) (.send .none) s'') ∧
      (∀ p ∈ ps c, m' p.1 = some p.2) ∧ (∀ z, z ≠ Str.ofString "ch" → z ≠ Str.ofString "pos" → (∀ p ∈ ps c, z ≠ p.1) → stored.contains z = false → m' z = m₀ z) ∧ P i c ∧ i ≤ x.cps.size ∧ k = x.cps.size + 1 - i) : Nat → Shared → Prop) k' s₃ := by
        intro xo6
        obtain ⟨c', h₆, tk₆, m₆, news₆, hr14, F₇, N₇, hl₆, hk₆, hr₆, hP₆⟩ := (xo6)
        revert c' h₆ tk₆ m₆ news₆ hr14 F₇ N₇ hl₆ hk₆ hr₆ hP₆
        intro c' h₆ tk₆ m₆ news₆ hr14 F₇ N₇ hl₆ hk₆ hr₆ hP₆
        obtain rfl := hr14
        refine ⟨x.cps.size + 1 - (i + 1), by omega, c', h₆, tk₆, _, m₆, O₁, gs', i + 1, rfl, hgoff, hgn, F₇, (N₇ _ (hl₆ _ (.head _))).1, fun p hp => (N₇ p (hl₆ p (.tail _ hp))).1, hOl₁, ?_, hk₆, hr₆, hP₆, hlt, rfl⟩
        intro s'' h1 h2 _
        have := hkap s'' h1 h2
        have e1 : x.cps.size - i = (x.cps.size - (i + 1)) + 1 := by omega
        rw [e1] at this
        exact this
      cases f with
      | ret v => exact h₃
      | brk => exact h₃
      | cont => exact fin h₃
      | next => exact fin h₃
    · exfalso
      have := hkap s₁ hO₁ F₁.keep
      have e1 : x.cps.size - i = 0 := by omega
      rw [e1] at this
      exact this
  · intro s₁ xo8 h₁ hk₁
    obtain ⟨hn0, hkl⟩ := (xo8)
    revert hn0 hkl
    intro hn0 hkl
    have hin : i = x.cps.size := by omega
    subst hin
    have F₁ : Fr h₀ env.locals h₁ m' := fr_kp (frL hkl F') hk₁
    obtain ⟨⟨h₂, tk₂, hr15⟩, xu16⟩ := hkl
    revert xu16 h₂ tk₂ hr15
    intro xu16 h₂ tk₂ hr15
    obtain rfl := hr15
    refine wpAny_execs_nil ?_
    refine done c m' h₁ tk₂ ((gn.setIfInBounds g .running).setIfInBounds g .finished) hP ?_ ?_
    · intro hb y hy
      obtain ⟨j, hj, hr17⟩ := Array.mem_iff_getElem.mp hy
      revert j hj hr17
      intro j hj hr17
      obtain rfl := hr17
      by_cases hjg : j = g
      · subst hjg
        have := gens_set (z := GenState.finished) (gens_set (z := GenState.running) hgs')
        rw [Array.getElem?_eq_getElem hj] at this
        rw [Option.some.inj this]; rfl
      · have h1 : ((gn.setIfInBounds g .running).setIfInBounds g .finished)[j]? = s.gens[j]? := by rw [gens_off hjg, gens_off hjg]; exact hoff j hjg
        rw [Array.getElem?_eq_getElem hj] at h1
        exact hb j _ hjg h1.symm
    · have em : (fun y => if y = Str.ofString "ch" then m' y else if y = Str.ofString "pos" then m' y else kstB (fun z => if stored.contains z then m' z else m₀ z) (ps c) y) = m' := by
        funext y
        by_cases h1 : y = Str.ofString "ch"
        · simp only [if_pos h1]
        · by_cases h2 : y = Str.ofString "pos"
          · simp only [if_neg h1, if_pos h2]
          · simp only [if_neg h1, if_neg h2]; exact hm' y h1 h2
      rw [em]; exact F₁
end
end Mine
end

section
theorem Mine.top_off_C1 : True := by
  w_top off
  trivial
local macro_rules | `(tactic| omega) => `(tactic| first | lia | omega (config := {}))
open PySem PySem.W PyProof.Rows PySem.Spec PySem.Calls
namespace Mine
theorem k_filled6 : (hd.heap_39 = hd.heap_39) ∧ (PySem.Challenge.rw_re0068_01 = PySem.Challenge.rw_re0068_01) := by
  k_fill
  exact ⟨rfl, rfl⟩

section
variable {prog : Program} {w : World} {A : Around} {s : Shared} {p : Program} {loose : List Str} {mean : ExcName → Option Value} {mg mb : Str → Option Value} {K : Frag}
  {name qual : Str} {params : Arguments} {body : List Stmt} {scope : Scope} {dV kV doc pm cdv ct oc : Value} {an od : Option Addr} {osl : Array (Option Value)} {f : Addr} {args : List Value} {binds : List (Str × Value)}
  {Q E : Value → Shared → Prop}
theorem call_gen (X : K.In s.heap) (T : Top p loose mean mg mb s.heap)
    (ho : K.lookup f = some ⟨oc, od, .func (fnOf name qual params body scope dV kV doc pm an cdv ct), osl⟩) (hcd : codeIn K cdv qual = true) (hroom : A.depth < recursionLimit)
    (hbind : BindsTo s (fnOf name qual params body scope dV kV doc pm an cdv ct) ⟨args, []⟩ binds) (hloc : ∀ y ∈ binds, scope.names.lookup y.1 = some .local)
    (h : ∀ L' h₁ tk nm qn, L' = s.heap.objs.size → Keeps s.heap h₁ → h₁.Ns L' (fun y => binds.reverse.lookup y) → L' < h₁.objs.size →
      Q (.ref h₁.objs.size) { s with heap := h₁.push (genObj s.gens.size nm qn), toks := tk, gens := s.gens.push (.fresh (.func body (envOf qual scope L' f cdv))) })
    (hco : scope.isCoroutine = false) (hgen : scope.isGenerator = true) (hk : scope.kind = .function) (hcell : ∀ x ∈ scope.names, x.2 ≠ .cell) :
    wpAny (model prog w) A (call (.ref f) args) Q E s := by
  refine wpAny_call (codeAny_call_generator (fd := fnOf name qual params body scope dV kV doc pm an cdv ct) (body := body) hroom (X _ _ ho) rfl hco hgen rfl (codeRec_of X hcd) (hbind _ _ _ _ ?_))
  refine wpAny_newFunctionEnv hcell hloc (fun h₁ hns hsb => ?_) hk
  have hkp : Keeps s.heap h₁ := fun b o e => hsb.extBut b o (Nat.ne_of_lt (Heap.lt_size e)) (Heap.get?_push_of_some _ e)
  exact ⟨T.nolimit.keeps hkp, h s.heap.objs.size h₁ _ _ _ rfl hkp hns hns.lt⟩
end

theorem strip_spec {prog : Program} {w : World} {s : Shared} {p : Program} {loose : List Str} {mean : ExcName → Option Value} {mg mb : Str → Option Value} {Q E : Value → Shared → Prop}
    {x : Str} {t : Tok} (hx : x.length ≤ 64) (hi : (Builtin.Str.occurrences x (Str.ofString "\"") 0 x.length 1).isEmpty = true)
    (X : (hd.heap_39 w.params).In s.heap) (T : Top p loose mean mg mb s.heap)
    (ret : ∀ h' tk, Keeps s.heap h' → Q (.str x t) { s with heap := h', toks := tk }) :
    wpAny (model prog w) (AM 7) (call (.ref 35) [.str x t]) Q E s := by
  revert prog w s p loose mean mg mb Q E x t hx hi X T ret
  show ∀ prog w s p loose mean mg mb Q E x t hx hi X T ret, _
  intro prog w s p loose mean mg mb Q E x t
  intros hx hi X T ret
  k_dflt (refine' call_fn X T ?ho ?hcd ?hr ?hb ?hl ?_ ?c1 ?c2 ?c3 ?c4; (case ho => k_is); (case hcd => k_is); (case hr => decide); (case hb => exact BindsTo.of_eq rfl); (case hl => exact locs rfl); (case c1 => exact rfl); (case c2 => exact rfl); (case c3 => exact rfl); (case c4 => decide))
  intro L' h' F' N'
  (try dsimp only)
  skip
  k_steps
  exact ret _ _ (Fr.keep (by assumption))

section
variable {prog : Program} {w : World} {A : Around} {s : Shared} {p : Program} {loose : List Str} {mean : ExcName → Option Value} {mg mb : Str → Option Value} {Q E : Value → Shared → Prop} {h₀ : Heap} {L : Addr} {m : Str → Option Value} {news : List (Addr × Obj)}
theorem use_strip {x : Str} {t : Tok} (F : Fr h₀ L s.heap m) (N : News h₀ L s.heap news) (X : (hd.heap_39 w.params).In h₀) (T : Top p loose mean mg mb h₀) (hh : A.handled = none) (hdp : A.depth ≤ 370) (hun : A.units ≤ 700)
    (hx : x.length ≤ 64) (hi : (Builtin.Str.occurrences x (Str.ofString "\"") 0 x.length 1).isEmpty = true)
    (ret : ∀ h' tk, Fr h₀ L h' m → News h₀ L h' news → Q (.str x t) { s with heap := h', toks := tk }) :
    wpAny (model prog w) A (call (.ref 35) [.str x t]) Q E s :=
  am_weak (n := 7) (strip_spec hx hi (X.keeps F.keep) (T.keeps F.keep) fun h' tk k => ret h' tk (fr_kp F k) (news_kp N k)) hh hdp hun
end

end Mine
end

section
theorem Mine.top_off_C2 : True := by
  w_top off
  trivial
local macro_rules | `(tactic| omega) => `(tactic| first | lia | omega (config := {}))
open PySem PySem.W PyProof.Rows PySem.Spec PySem.Calls
namespace Mine
theorem k_filled7 : (hd.heap_39 = hd.heap_39) ∧ (PySem.Challenge.rw_re0068_01 = PySem.Challenge.rw_re0068_01) := by
  k_fill
  exact ⟨rfl, rfl⟩

theorem eq40 {c : Nat} (h : (({ cps := #[c] } : Str) == Str.ofString "(") = true) : c = 40 := by
  have e : Str.ofString "(" = ⟨#[40]⟩ := by decide
  rw [e] at h
  have := eq_of_beq h
  injection this with q; injection q with q; injection q
theorem ne40 {c : Nat} (h : (({ cps := #[c] } : Str) == Str.ofString "(") = false) : c ≠ 40 := by
  intros q; subst q; revert h; decide
theorem eq41 {c : Nat} (h : (({ cps := #[c] } : Str) == Str.ofString ")") = true) : c = 41 := by
  have e : Str.ofString ")" = ⟨#[41]⟩ := by decide
  rw [e] at h
  have := eq_of_beq h
  injection this with q; injection q with q; injection q
theorem ne41 {c : Nat} (h : (({ cps := #[c] } : Str) == Str.ofString ")") = false) : c ≠ 41 := by
  intros q; subst q; revert h; decide
noncomputable def balF (l : List Nat) : Int := l.foldl (fun d c => if c = 40 then d + 1 else if c = 41 then d - 1 else d) 0

local macro_rules | `(tactic| walk_at $k:str) => if ["call ref", "pyIter ref"].contains k.getString then `(tactic| (refine hold_of ?_)) else Lean.Macro.throwUnsupported
local macro_rules | `(tactic| walk_at "exec For Tuple Call cons nil") => `(tactic| (k_dflt (refine wpAny_For ?_ (by intro _; rfl))))

theorem bal_step {x : Str} {i c : Nat} (h : x.cps[i]? = some c) : balF (x.cps.toList.take (i + 1)) = if c = 40 then balF (x.cps.toList.take i) + 1 else if c = 41 then balF (x.cps.toList.take i) - 1 else balF (x.cps.toList.take i) := by
  have h' : x.cps.toList[i]? = some c := by simpa using h
  rw [List.take_add_one, h']
  unfold balF
  rw [List.foldl_append]
  rfl
theorem check_spec {prog : Program} {w : World} {s : Shared} {p : Program} {loose : List Str} {mean : ExcName → Option Value} {mg mb : Str → Option Value} {Q E : Value → Shared → Prop}
    {x : Str} {t : Tok} (hx : x.length ≤ 64) (hi : (Builtin.Str.occurrences x (Str.ofString "\"") 0 x.length 1).isEmpty = true)
    (ha : ∀ (i c : Nat), x.cps[i]? = some c → c < 128 ∧ c ≠ 92) (hnn : ∀ i, i ≤ x.cps.size → 0 ≤ balF (x.cps.toList.take i))
    (X : (hd.heap_39 w.params).In s.heap) (T : Top p loose mean mg mb s.heap)
    (ret : ∀ h' tk g, Keeps s.heap h' → (AllBare s.gens → AllBare g) → Q (.bool (decide (balF x.cps.toList = 0))) { s with heap := h', toks := tk, gens := g }) :
    wpAny (model prog w) (AM 6) (call (.ref 42) [.str x t]) Q E s := by
  revert prog w s p loose mean mg mb Q E x t hx hi ha hnn X T ret
  show ∀ prog w s p loose mean mg mb Q E x t hx hi ha hnn X T ret, _
  intro prog w s p loose mean mg mb Q E x t
  intros hx hi ha hnn X T ret
  k_dflt (refine' call_fn X T ?ho ?hcd ?hr ?hb ?hl ?_ ?c1 ?c2 ?c3 ?c4; (case ho => k_is); (case hcd => k_is); (case hr => decide); (case hb => exact BindsTo.of_eq rfl); (case hl => exact locs rfl); (case c1 => exact rfl); (case c2 => exact rfl); (case c3 => exact rfl); (case c4 => decide))
  intro L' h' F' N'
  (try dsimp only)
  skip
  k_steps
  refine hold_in (use_strip (by assumption) (by assumption) X T rfl (Nat.le_of_ble_eq_true rfl) (Nat.le_of_ble_eq_true rfl) hx hi ?_)
  clear F' N'
  intro h' tk' F' N'
  k_steps
  (rename Fr _ _ _ _ => lF'); (rename News _ _ _ _ => lN')
  refine hold_in ?_
  k_dflt (refine' call_gen (X.keeps lF'.keep) (T.keeps lF'.keep) ?ho ?hcd ?hr ?hb ?hl ?_ ?c1 ?c2 ?c3 ?c4; (case ho => k_is); (case hcd => k_is); (case hr => exact Nat.le_of_ble_eq_true rfl); (case hb => exact BindsTo.of_eq rfl); (case hl => exact locs rfl); (case c1 => exact rfl); (case c2 => exact rfl); (case c3 => exact rfl); (case c4 => decide))
  intro Lg h₁ tk₁ nm qn hLg hk₁ hns hlt
  have hk₂ : Keeps h₁ (h₁.push (genObj s.gens.size nm qn)) := fun b o e => Heap.get?_push_of_some _ e
  have hGo : (h₁.push (genObj s.gens.size nm qn)).get? h₁.objs.size = some (genObj s.gens.size nm qn) := Heap.get?_push_size _ rfl
  refine wpAny_pyIter_gen (g := s.gens.size) ⟨_, nm, qn, hGo, rfl, rfl, rfl⟩ ?_
  obtain ⟨oL, es, ep, hoL, hL'⟩ := id hns
  revert oL es ep hoL hL'
  intro oL es ep hoL hL'
  have hpush : ∀ (a : Array GenState) (y : GenState), (a.push y)[a.size]? = some y := fun a y => by simp
  refine forGen (σ := Int × Tok) (x := x) (L := Lg) (G := h₁.objs.size) (g := s.gens.size) (nm := nm) (qn := qn) (h₀ := s.heap) (O₀ := [(Lg, oL)]) (fun c => [(Str.ofString "opens", .int c.1 c.2)]) [] (fun i c => c.1 = balF (x.cps.toList.take i)) (0, _) rfl (Nat.le_of_ble_eq_true rfl) T.nolimit
    (fr_kp lF' fun b o e => hk₂ b o (hk₁ b o e)) hGo ?_ hlt ?_ ?_ (hpush _ _) ?_ (List.forall_mem_cons.mpr ⟨rfl, List.forall_mem_nil _⟩) rfl ?_ ?_ rfl rfl rfl
  · rw [hLg]; exact lF'.ns.lt
  · intro p hp; rw [List.mem_singleton.mp hp]; exact Heap.get?_push_of_some _ hoL
  · intro p hp; rw [List.mem_singleton.mp hp]; exact .inl rfl
  · intro s₂ hgo hkb hG'
    have hLn : s₂.heap.Ns Lg _ := ⟨oL, es, ep, hgo _ (.head _), hL'⟩
    refine ⟨rfl, seg_func (seg_execs_cons (seg_stmt (wpAny_Assign_Name (wpAny_Constant_int (wpAny_storeName_local rfl hLn (fun h₂ hn₂ hs₂ => ?_) rfl)))))⟩
    refine seg_execs_cons (seg_stmt (wpAny_Assign_Name (wpAny_Constant_bool (wpAny_storeName_local rfl hn₂ (fun h₃ hn₃ hs₃ => ?_) rfl))))
    have hab : s.heap.objs.size ≤ Lg := by rw [hLg]; exact Nat.le_of_lt (Nat.lt_of_le_of_lt lF'.above lF'.ns.lt)
    have hkp : ∀ b o, s.heap.get? b = some o → h₃.get? b = some o := fun b o e =>
      have hb : b ≠ Lg := Nat.ne_of_lt (Nat.lt_of_lt_of_le (Heap.lt_size e) hab)
      (hs₃.2 b hb).trans ((hs₂.2 b hb).trans (hkb b o e))
    refine seg_execs_cons (seg_For (Call_Name1 (Name_function_global rfl rfl (loadGlobal_builtin (T.g.keeps hkp) (mg_none_of X T.g (by k_is)) (T.b.keeps hkp) ((T.builtins _ (by decide)).trans (by boot_by_name)) ?_))) (fun _ => rfl))
    refine callWith_type1 (spliced_more (wpAny_Name (wpAny_loadName_local rfl rfl hn₃ (v := .str x t) ?_ (spliced_none ?_))))
    · rfl
    refine call_enumerate_str fun h₄ he hsi hsz hk₄ => ?_
    refine wpAny_pyIter_enum he fun p => ?_
    have hG3 : h₃.get? h₁.objs.size = some (genObj s.gens.size nm qn) := (hs₃.2 _ (Nat.ne_of_gt hlt)).trans ((hs₂.2 _ (Nat.ne_of_gt hlt)).trans hG')
    have hGlt : h₁.objs.size < h₃.objs.size := Heap.lt_size hG3
    have hty : strIterType x = "str_ascii_iterator" := by
      unfold strIterType
      rw [if_pos]
      refine Array.all_eq_true.mpr fun i hi => decide_eq_true ?_
      exact (ha i _ (Array.getElem?_eq_getElem hi)).1
    have hkl : KeptLow Lg h₁.objs.size s₂ { s₂ with heap := h₄, toks := s₂.toks + 1 + 1 } := ⟨⟨_, _, rfl⟩, fun b o h1 h2 h3 => hk₄ b o ((hs₃.2 b h1).trans ((hs₂.2 b h1).trans h3))⟩
    rw [hty] at hsi
    refine gen_loop (x := x) (tx := t) (hb := s.heap) rfl rfl rfl (fun i c hc => (ha i c hc).2) rfl rfl rfl rfl rfl rfl rfl rfl (Nat.le_of_lt hlt) (Nat.lt_succ_of_lt hGlt) hGlt (Nat.succ_ne_self _) ?_ x.cps.size 0 rfl s₂ _ ⟨⟨_, _, rfl⟩, hkl.2⟩ ⟨⟨_, he⟩, hsi, ⟨_, hn₃.keeps hk₄, rfl⟩⟩
    intro s₅ s₆ hkl₅
    intros hns₅
    obtain ⟨m₅, hn₅, hm₅⟩ := hns₅
    revert m₅ hn₅ hm₅
    intro m₅ hn₅ hm₅
    refine seg_leaf (.ok .next) ?_
    refine seg_execs_cons (seg_If (isTrue_plain (wpAny_Name (wpAny_loadName_local rfl rfl hn₅ (v := .bool false) hm₅ (wpAny_pure ?_)))))
    rw [if_neg Bool.false_ne_true]
    exact seg_execs_nil (seg_execs_nil (seg_end (.ok (.ret .none)) ⟨rfl, rfl, hkl₅⟩))
  · clear lF' lN'
    intros c
    obtain ⟨d, td⟩ := c
    revert d td
    intro d td i ch u h tk gn O t₁ t₂ hch hP F' N'
    dsimp only at hP F'
    have hsp := bal_step hch
    have hin : i < x.cps.size := by
      rcases Nat.lt_or_ge i x.cps.size with q | q
      · exact q
      · rw [Array.getElem?_eq_none q] at hch; cases hch
    have hnz := hnn (i + 1) hin
    k_steps
    · have e1 := eq40 (by assumption)
      refine c_end (d + 1, _) (by assumption) (by assumption) (fun _ q => q) (List.forall_mem_cons.mpr ⟨rfl, List.forall_mem_nil _⟩) (fun z h1 h2 h3 _ => ?_) ?_
      · have h4 := h3 _ (.head _)
        simp only [kstB, if_neg h1, if_neg h2, if_neg h4, List.contains_nil, Bool.false_eq_true, if_false]
      · show d + 1 = _; rw [hsp, if_pos e1, hP]
    · have e1 := ne40 (by assumption)
      have e2 := eq41 (by assumption)
      exfalso
      rw [if_neg e1, if_pos e2] at hsp
      omega
    · have e1 := ne40 (by assumption)
      have e2 := eq41 (by assumption)
      refine c_end (d - 1, _) (by assumption) (by assumption) (fun _ q => q) (List.forall_mem_cons.mpr ⟨rfl, List.forall_mem_nil _⟩) (fun z h1 h2 h3 _ => ?_) ?_
      · have h4 := h3 _ (.head _)
        simp only [kstB, if_neg h1, if_neg h2, if_neg h4, List.contains_nil, Bool.false_eq_true, if_false]
      · show d - 1 = _; rw [hsp, if_neg e1, if_pos e2, hP]
    · have e1 := ne40 (by assumption)
      have e2 := ne41 (by assumption)
      refine c_end (d, _) (by assumption) (by assumption) (fun _ q => q) (List.forall_mem_cons.mpr ⟨rfl, List.forall_mem_nil _⟩) (fun z h1 h2 h3 _ => ?_) ?_
      · have h4 := h3 _ (.head _)
        simp only [kstB, if_neg h1, if_neg h2, if_neg h4, List.contains_nil, Bool.false_eq_true, if_false]
      · show d = _; rw [hsp, if_neg e1, if_neg e2, hP]
  · clear lF' lN'
    intros c
    obtain ⟨d, td⟩ := c
    revert d td
    intro d td u h tk gn hP hb F'
    dsimp only at hP F'
    have N' : News s.heap L' h [] := News.nil
    have hfull : balF x.cps.toList = d := by rw [hP, List.take_of_length_le (by simp)]
    have hbare : AllBare s.gens → AllBare gn := fun hb₀ => hb fun j y hj hy => by
      have hy' : (s.gens.push (GenState.fresh _))[j]? = some y := hy
      rw [Array.getElem?_push] at hy'
      split at hy'
      · exact absurd (by assumption) hj
      · exact hb₀ _ (Array.mem_of_getElem? hy')
    have hq : decide (balF x.cps.toList = 0) = (d == 0) := by rw [hfull]; rfl
    k_steps
    show Q (.bool (d == 0)) _
    exact hq ▸ ret _ _ _ (Fr.keep F') hbare
end Mine
end

section
theorem Mine.top_off_G1 : True := by
  w_top off
  trivial
local macro_rules | `(tactic| walk_at "idle") => `(tactic| skip)
local macro_rules | `(tactic| omega) => `(tactic| first | lia | omega (config := {}))
open PySem PySem.W PyProof.Rows PySem.Spec PySem.Calls
namespace Mine
theorem k_filled5 : (hd.heap_39 = hd.heap_39) ∧ (PySem.Challenge.rw_re0068_01 = PySem.Challenge.rw_re0068_01) := by
  k_fill
  exact ⟨rfl, rfl⟩

noncomputable def growEnd (g : List Int) (k : Int) : Nat → Int → Int → Int
  | 0, _, e => e
  | f + 1, p, e => if p < e then growEnd g k f (p + 1) (if g.getD (p - k - 1).toNat 0 > e then g.getD (p - k - 1).toNat 0 else e) else e
noncomputable def growStep (goal : List Int) (g : List Int) (k : Int) : List Int := growEnd g k ((goal.length : Int) - (k + 1)).toNat (k + 1) (goal.getD k.toNat 0) :: g
noncomputable def grownF (goal : List Int) : List Int := (downKs ((goal.length : Int) - 1) goal.length).foldl (growStep goal) []

theorem growEnd_step {g : List Int} {k p e : Int} {n : Nat} (h : p < e) (hn : e ≤ n) : growEnd g k ((n : Int) - p).toNat p e = growEnd g k ((n : Int) - (p + 1)).toNat (p + 1) (if g.getD (p - k - 1).toNat 0 > e then g.getD (p - k - 1).toNat 0 else e) := by
  have e1 : ((n : Int) - p).toNat = ((n : Int) - (p + 1)).toNat + 1 := by omega
  rw [e1]
  show (if p < e then _ else _) = _
  rw [if_pos h]
theorem growEnd_exit {g : List Int} {k p e : Int} {f : Nat} (h : ¬ p < e) : growEnd g k f p e = e := by
  cases f with
  | zero => rfl
  | succ f => show (if p < e then _ else _) = _; rw [if_neg h]
structure EndS where
  e : Int
  te : Tok
  p : Int
  tp : Tok
structure GroS where
  adr : Addr
  gvs : List Value
  g : List Int
  nn : Nat

local macro_rules | `(tactic| walk_at $k:str) => if ["pyIter ref", "KswEnd", "exec While Compare cons nil"].contains k.getString then `(tactic| (refine hold_of ?_)) else Lean.Macro.throwUnsupported
local macro_rules | `(tactic| walk_at "exec For Name Call cons nil") => `(tactic| (k_dflt (refine wpAny_For ?_ (by intro _; rfl))))

theorem grown_spec {prog : Program} {w : World} {s : Shared} {p : Program} {loose : List Str} {mean : ExcName → Option Value} {mg mb : Str → Option Value} {Q E : Value → Shared → Prop}
    {el : Addr} {evs : List Value} {es : List Int} 
    (hel : s.heap.IsList el evs.toArray) (hes : IntsAre evs es) (hn : es.length ≤ 64) (hle : ∀ e ∈ es, 0 ≤ e ∧ e ≤ es.length)
    (X : (hd.heap_39 w.params).In s.heap) (T : Top p loose mean mg mb s.heap)
    (ret : ∀ h' tk g r vs nn, Keeps s.heap h' → (AllBare s.gens → AllBare g) → s.heap.get? r = none → h'.get? r = some (listOf vs.toArray nn) → IntsAre vs (grownF es) → Q (.ref r) { s with heap := h', toks := tk, gens := g }) :
    wpAny (model prog w) (AM 4) (call (.ref 115) [.ref el]) Q E s := by
  revert prog w s p loose mean mg mb Q E el evs es hel hes hn hle X T ret
  show ∀ prog w s p loose mean mg mb Q E el evs es hel hes hn hle X T ret, _
  intro prog w s p loose mean mg mb Q E el evs es
  intros hel hes hn hle X T ret
  k_dflt (refine' call_fn X T ?ho ?hcd ?hr ?hb ?hl ?_ ?c1 ?c2 ?c3 ?c4; (case ho => k_is); (case hcd => k_is); (case hr => decide); (case hb => exact BindsTo.of_eq rfl); (case hl => exact locs rfl); (case c1 => exact rfl); (case c2 => exact rfl); (case c3 => exact rfl); (case c4 => decide))
  intro L' h' F' N'
  (try dsimp only)
  skip
  k_steps
  (rename Fr _ _ _ _ => lF'); (rename News _ _ _ _ => lN'); (rename IsRange _ _ _ _ _ _ _ _ => rgX)
  refine hold_in (forG_range (σ := GroS) (fun c => [(c.adr, listOf c.gvs.toArray c.nn)]) (fun c => [(Str.ofString "grown", .ref c.adr)]) [Str.ofString "end", Str.ofString "place"]
    (fun i c => IntsAre c.gvs c.g ∧ c.g = ((downKs ((es.length : Int) - 1) es.length).take i).foldl (growStep es) [] ∧ c.g.length = i ∧ ∀ x ∈ c.g, x ≤ es.length) ⟨_, [], [], 0⟩ rfl rgX (small_down (by omega) (by omega) (by omega) (by omega)) (rangeSize_downNat _ _) lF' lN' (List.forall_mem_cons.mpr ⟨rfl, List.forall_mem_nil _⟩) ⟨.nil, rfl, rfl, fun _ h => nomatch h⟩ ?_ ?_ rfl rfl)
  · clear lF' lN'
    intros c
    obtain ⟨adr, gvs, gl, nn⟩ := c
    revert adr gvs gl nn
    intro adr gvs gl nn i k t u h tk g I oI hi hk hP hgo hne F' N'
    obtain ⟨hi1, hg1, hl1, hb1⟩ := hP
    revert hi1 hg1 hl1 hb1
    intro hi1 hg1 hl1 hb1
    dsimp only at hi1 hg1 hl1 hb1 F' N'
    have hk0 : 0 ≤ k := by omega
    have hk1 : k < es.length := by omega
    have heb := hle _ (kso_getD (l := es) (i := k.toNat) (by omega))
    simp only [List.cons_append, List.nil_append] at N'
    k_steps
    (rename Fr _ _ _ _ => lF'); (rename News _ _ _ _ => lN')
    refine hold_in (whileG (σ := EndS) (fun c => [(adr, listOf gvs.toArray nn), (I, oI)]) (fun c => [(Str.ofString "end", .int c.e c.te), (Str.ofString "place", .int c.p c.tp)]) []
      (fun c => growEnd gl k ((es.length : Int) - c.p).toNat c.p c.e = growEnd gl k ((es.length : Int) - (k + 1)).toNat (k + 1) (es.getD k.toNat 0) ∧ k < c.p ∧ c.e ≤ es.length ∧ 0 ≤ c.e) (fun c => ((es.length : Int) - c.p).toNat) ⟨_, _, _, _⟩ lF' lN' (List.forall_mem_cons.mpr ⟨rfl, List.forall_mem_cons.mpr ⟨rfl, List.forall_mem_nil _⟩⟩) ⟨rfl, (by show k < k + 1; omega), heb.2, heb.1⟩ ?_)
    clear lF' lN'
    intros c
    obtain ⟨e, te, pl, tp⟩ := c
    revert e te pl tp
    intro e te pl tp u h tk g hP hg F' N'
    obtain ⟨hq, hkp, hen, he0⟩ := hP
    revert hq hkp hen he0
    intro hq hkp hen he0
    dsimp only at hq hkp hen F' N'
    have hil := IntsAre.length hi1
    by_cases hpe : pl < e
    · have hgb : 0 ≤ (pl - k - 1) ∧ (pl - k - 1) < gl.length := by constructor <;> omega
      have hgx := hb1 _ (kso_getD (l := gl) (i := (pl - k - 1).toNat) (by omega))
      k_steps
      (rename Fr _ _ _ _ => lF'); (rename News _ _ _ _ => lN')
      refine w_end ⟨if gl.getD (pl - k - 1).toNat 0 > e then gl.getD (pl - k - 1).toNat 0 else e, _, pl + 1, _⟩ lF' lN' hg (fun _ h => h) (List.forall_mem_cons.mpr ⟨rfl, List.forall_mem_cons.mpr ⟨rfl, List.forall_mem_nil _⟩⟩) (fun z hz _ => ?_) ⟨?_, ?_, ?_, ?_⟩ ?_
      · have h1 := hz _ (.head _)
        have h2 := hz _ (.tail _ (.head _))
        simp only [kstB, if_neg h1, if_neg h2, List.contains_nil, Bool.false_eq_true, if_false]
      · rw [← hq]; exact (growEnd_step hpe hen).symm
      · show k < pl + 1; omega
      · dsimp only; split <;> omega
      · dsimp only at he0 ⊢; split <;> omega
      · show ((es.length : Int) - (pl + 1)).toNat < ((es.length : Int) - pl).toNat; omega
    · k_steps
      (rename Fr _ _ _ _ => lF'); (rename News _ _ _ _ => lN')
      rename (_ < _ ∧ _ < _ ∧ I < _) => l1
      have hex : growEnd gl k ((es.length : Int) - (k + 1)).toNat (k + 1) (es.getD k.toNat 0) = e := by rw [← hq]; exact growEnd_exit hpe
      have htk : (downKs ((es.length : Int) - 1) es.length).take (i + 1) = (downKs ((es.length : Int) - 1) es.length).take i ++ [k] := by
        have hk' : (downKs ((es.length : Int) - 1) es.length)[i]? = some k := by
          have : i < es.length := by omega
          simp [downKs, this]; omega
        simp [List.take_add_one, hk']
      refine g_end ⟨_, _, e :: gl, 0⟩ lF' lN' (fun b => hg (hgo b)) (List.forall_mem_cons.mpr ⟨.head _, List.forall_mem_nil _⟩) (.tail _ (.tail _ (.tail _ (.head _)))) (List.forall_mem_cons.mpr ⟨Nat.ne_of_gt l1.2.2, List.forall_mem_nil _⟩) (List.forall_mem_cons.mpr ⟨rfl, List.forall_mem_nil _⟩) (fun z hz1 hz2 hc => ?_) ⟨by assumption, ?_, ?_, ?_⟩
      · have h1 := hz2 _ (.head _)
        have h2 : z ≠ Str.ofString "end" := by intro e; subst e; revert hc; decide
        have h3 : z ≠ Str.ofString "place" := by intro e; subst e; revert hc; decide
        simp only [kstB, if_neg h1, if_neg h2, if_neg h3, if_neg hz1, hc, List.contains_nil, Bool.false_eq_true, if_false]
      · rw [htk, List.foldl_append, ← hg1]
        show e :: gl = growStep es gl k
        unfold growStep
        rw [hex]
      · show gl.length + 1 = i + 1; omega
      · exact List.forall_mem_cons.mpr ⟨hen, hb1⟩
  · clear lF' lN'
    intros c
    obtain ⟨adr, gvs, gl, nn⟩ := c
    revert adr gvs gl nn
    intro adr gvs gl nn u h tk g hP hg F' N'
    obtain ⟨hi1, hg1, hl1, hb1⟩ := hP
    revert hi1 hg1 hl1 hb1
    intro hi1 hg1 hl1 hb1
    dsimp only at hi1 hg1 hl1 hb1 F' N'
    k_steps
    have e0 : ((es.length : Int) - 1 - -1).toNat = es.length := by omega
    rw [e0, List.take_of_length_le (Nat.le_of_eq (downKs_length _ _))] at hg1
    exact ret h tk g adr gvs nn F'.keep hg (N' _ (.head _)).2.2 (N' _ (.head _)).1 (by unfold grownF; rw [← hg1]; exact hi1)
end Mine
end

section
theorem Mine.top_off_CG : True := by
  w_top off
  trivial
local macro_rules | `(tactic| omega) => `(tactic| first | lia | omega (config := {}))
open PySem PySem.W PyProof.Rows PySem.Spec PySem.Calls
namespace Mine
open PyProof.Rows.LCg (lst lst_snoc NsObj ns_obj fr_but news_but)

noncomputable def Blk (prog : Program) (w : World) (A : Around) (E : Value → Shared → Prop) (env : Env) (elt iter : Expr) (x : Str) (px : Pos) (ifs : List Expr) (scope : Scope) (cl : List (Str × Addr)) (pos : Pos)
    (use : Option (Value → Sem Unit)) (Q : Value → Shared → Prop) (it : Value) (s₂ : Shared) : Prop :=
  wpAny (model prog w) A (newList []) (fun acc s₃ => wpAny (model prog w) A (newFunctionEnv scope env.globals cl [] env.qual none .none (some env)) (fun cenv s₄ =>
    codeAny (model prog w) A (.compStart (.ListComp elt [⟨.Name x px, iter, ifs, 0⟩] scope pos) 0 it acc { cenv with scope := relabel scope env }) (compPost (model prog w) A E use Q acc cenv.locals) s₄) E s₃) E s₂

noncomputable def tests (env : Env) (ifs : List Expr) : Sem Bool := forIn ifs true fun c r => if r = true then do let ok ← isTrue c env (eval c env); pure (ForInStep.yield ok) else pure (ForInStep.yield r)

/-- what a turn leaves behind -/
noncomputable def QEnd {σ : Type} (h₀ : Heap) (C D I L : Addr) (s : Shared) (own : List (Addr × Obj)) (Led : σ → List (Addr × Obj)) (P : σ → List Value → Prop) (ys : List Value) (s₂ : Shared) : Prop :=
  ∃ (c : σ) (h' : Heap) (tk : Nat) (g : Array GenState) (m' : Str → Option Value) (news' : List (Addr × Obj)), s₂ = { s with heap := h', toks := tk, gens := g } ∧ (AllBare s.gens → AllBare g) ∧ Fr h₀ C h' m' ∧ News h₀ C h' news' ∧
    (∀ p ∈ own, p ∈ news') ∧ (∀ p ∈ Led c, p ∈ news') ∧ (∀ p ∈ Led c, p.1 ≠ D ∧ p.1 ≠ I ∧ p.1 ≠ L) ∧ P c ys
theorem q_end {σ : Type} {h₀ : Heap} {C D I L : Addr} {s : Shared} {own : List (Addr × Obj)} {Led : σ → List (Addr × Obj)} {P : σ → List Value → Prop} {ys : List Value} {h' : Heap} {tk : Nat} {g : Array GenState} {m' : Str → Option Value} {news' : List (Addr × Obj)} (c : σ)
    (F : Fr h₀ C h' m') (N : News h₀ C h' news') (hg : AllBare s.gens → AllBare g) (ho : ∀ p ∈ own, p ∈ news') (hl : ∀ p ∈ Led c, p ∈ news') (hn : ∀ p ∈ Led c, p.1 ≠ D ∧ p.1 ≠ I ∧ p.1 ≠ L) (hp : P c ys) :
    QEnd h₀ C D I L s own Led P ys { s with heap := h', toks := tk, gens := g } := ⟨c, h', tk, g, m', news', rfl, hg, F, N, ho, hl, hn, hp⟩

section
variable {prog : Program} {w : World} {A : Around} {E : Value → Shared → Prop} {env : Env} {h₀ : Heap} {L : Addr} {m : Str → Option Value}

theorem blockG {σ : Type} {elt iter : Expr} {x : Str} {px : Pos} {ifs : List Expr} {scope : Scope} {cl : List (Str × Addr)} {pos : Pos} {use : Option (Value → Sem Unit)} {Q : Value → Shared → Prop} {s : Shared}
    {I : Addr} {fp : List Addr} {n : Nat} {Pv : Nat → Value → Prop} {St : Nat → Heap → Prop} (Led : σ → List (Addr × Obj)) (P : Nat → σ → List Value → Prop) (c₀ : σ)
    (W : Walks prog w A I fp [I] n Pv St) (hsz : n ≤ sizeLine) (hIo : ∀ i h, St i h → ∃ o, h.get? I = some o)
    (hfp : ∀ b ∈ fp, b = I ∨ (∃ o, h₀.get? b = some o) ∨ ∃ o, ∀ c, (b, o) ∈ Led c) (hfs : ∀ b ∈ fp, b < s.heap.objs.size)
    (hcell : ∀ y ∈ scope.names, y.2 ≠ .cell) (hkind : scope.kind = .function) (hx : scope.names.lookup x = some .local) (hst : St 0 s.heap)
    (F : Fr h₀ L s.heap m) (N : News h₀ L s.heap (Led c₀)) (hIL : L ≠ I) (hI₀ : h₀.get? I = none) (off : ∀ p ∈ Led c₀, p.1 ≠ I) (h0 : P 0 c₀ [])
    (turn : ∀ (c : σ) i v ys (m₂ : Str → Option Value) h tk g D C oI oL, i < n → Pv i v → P i c ys → (AllBare s.gens → AllBare g) → (∀ p ∈ Led c, p.1 ≠ D ∧ p.1 ≠ I ∧ p.1 ≠ L) → m₂ x = some v →
      Fr h₀ C h m₂ → News h₀ C h (Led c ++ [(D, lst ys), (I, oI), (L, oL)]) →
      wpAny (model prog w) A (tests (compEnvC scope cl C env) ifs) (fun ok s₃ =>
        if ok = true then wpAny (model prog w) A (eval elt (compEnvC scope cl C env)) (fun y s₄ => QEnd h₀ C D I L s [(D, lst ys), (I, oI), (L, oL)] Led (P (i + 1)) (ys ++ [y]) s₄) (fun _ _ => False) s₃
        else QEnd h₀ C D I L s [(D, lst ys), (I, oI), (L, oL)] Led (P (i + 1)) ys s₃) (fun _ _ => False) { s with heap := h, toks := tk, gens := g })
    (hfin : ∀ (c : σ) ys D C (m' : Str → Option Value) h tk g, P n c ys → ys.length ≤ n → (AllBare s.gens → AllBare g) → Fr h₀ L h m → News h₀ L h ((D, lst ys) :: Led c) → (∀ p ∈ Led c, p.1 ≠ D) → h.Ns C m' → C ≠ L → h₀.get? C = none → (∀ p ∈ (D, lst ys) :: Led c, p.1 ≠ C) →
      compPost (model prog w) A E use Q (.ref D) C (.ok .next) { s with heap := h, toks := tk, gens := g }) :
    Blk prog w A E env elt iter x px ifs scope cl pos use Q (.ref I) s := by
  revert prog w A E env h₀ L m elt iter x px ifs scope cl pos use Q s I fp n Pv St Led P W hsz hIo hfp hfs hcell hkind hx hst F N hIL hI₀ off h0 turn hfin
  revert σ c₀
  show ∀ σ c₀ prog w A E env h₀ L m elt iter x px ifs scope cl pos use Q s I fp n Pv St Led P W hsz hIo hfp hfs hcell hkind hx hst F N hIL hI₀ off h0 turn hfin, _
  refine' no_implicit_lambda% (Mine.clS (P := ?P) ((?g : ∀ x0 x1, ?P x0 x1) (Mine.pkS ?P).1 (Mine.pkS ?P).2))
  intros σ c₀
  intro prog w A E env h₀ L m elt iter x px ifs scope cl pos use Q s I fp n Pv St Led P
  intros W hsz hIo hfp hfs hcell hkind hx hst F N hIL hI₀ off h0 turn hfin
  refine wpAny_newObj_type (wpAny_newFunctionEnv hcell (by intro y hy; simp at hy) ?_ hkind)
  intro h₁ hns₁ hsb₁
  dsimp only at hns₁ hsb₁ ⊢
  generalize hH2 : s.heap.push { cls := .type "list", dict := none, data := .seq ([] : List Value).toArray } = H2 at hns₁ hsb₁ ⊢
  have hC : H2.objs.size = s.heap.objs.size + 1 := by rw [← hH2, Heap.size_push]
  have hDC : s.heap.objs.size ≠ H2.objs.size := by rw [hC]; exact Nat.ne_of_lt (Nat.lt_succ_self _)
  have below : ∀ b, b < s.heap.objs.size → b ≠ H2.objs.size ∧ b ≠ s.heap.objs.size := fun b hb => ⟨by rw [hC]; exact Nat.ne_of_lt (Nat.lt_succ_of_lt hb), Nat.ne_of_lt hb⟩
  have hDf : s.heap.objs.size ∉ fp := fun hm => Nat.lt_irrefl _ (hfs _ hm)
  have hCf : H2.objs.size ∉ fp := fun hm => by have := hfs _ hm; rw [hC] at this; exact Nat.lt_irrefl _ (Nat.lt_of_succ_lt this)
  have hIf : I ∈ fp := W.sub I (List.mem_singleton.mpr rfl)
  have hIlt : I < s.heap.objs.size := hfs I hIf
  have old : ∀ b o, s.heap.get? b = some o → h₁.get? b = some o := fun b o e => hsb₁.extBut b o (below b (Heap.lt_size e)).1 (Heap.get?_push_of_some _ (hH2 ▸ Heap.get?_push_of_some _ e))
  have hacc : h₁.get? s.heap.objs.size = some (lst []) := hsb₁.extBut _ _ hDC (Heap.get?_push_of_some _ (hH2 ▸ Heap.get?_push_size _ rfl))
  have hst₁ : St 0 h₁ := W.frame _ _ _ hst fun b _ o e => old b o e
  have hLlt : L < s.heap.objs.size := F.ns.lt
  have habL : h₀.objs.size ≤ L := F.above
  have hDL : s.heap.objs.size ≠ L := Ne.symm (below L hLlt).2
  have hCL : H2.objs.size ≠ L := Ne.symm (below L hLlt).1
  have hCI : I ≠ H2.objs.size := (below I hIlt).1
  have hDI : I ≠ s.heap.objs.size := (below I hIlt).2
  have hD₀ : h₀.get? s.heap.objs.size = none := Heap.get?_none_of_le (Nat.le_trans habL (Nat.le_of_lt hLlt))
  have habC : h₀.objs.size ≤ H2.objs.size := by rw [hC]; exact Nat.le_succ_of_le (Nat.le_trans habL (Nat.le_of_lt hLlt))
  have hC₀ : h₀.get? H2.objs.size = none := Heap.get?_none_of_le habC
  have hL₀ : h₀.get? L = none := Heap.get?_none_of_le habL
  obtain ⟨oL, heL, hoL⟩ := ns_obj F.ns
  revert oL heL hoL
  intro oL heL hoL
  have loop : ∀ s₃ : Shared, s₃ = { s with heap := h₁, toks := s.toks + ([] : List (Str × Value)).length } →
      codeAny (model prog w) A (.compLoop (.ListComp elt [⟨.Name x px, iter, ifs, 0⟩] scope pos) 0 (.ref I) (.ref s.heap.objs.size) (compEnvC scope cl H2.objs.size env))
        (compPost (model prog w) A E use Q (.ref s.heap.objs.size) H2.objs.size) s₃ := by
    intro s₃ hr1
    obtain rfl := hr1
    refine codeAny_compLoop_tests
      (fun k s' => ∃ (c : σ) (h' : Heap) (tk : Nat) (g : Array GenState) (i : Nat) (ys : List Value) (m' : Str → Option Value), s' = { s with heap := h', toks := tk, gens := g } ∧ (AllBare s.gens → AllBare g) ∧ i ≤ n ∧ k = n + 1 - i ∧ ys.length ≤ i ∧ St i h' ∧
        (∀ b o, h₀.get? b = some o → h'.get? b = some o) ∧ h'.Ns H2.objs.size m' ∧ h'.get? s.heap.objs.size = some (lst ys) ∧ h'.get? L = some oL ∧ News h₀ H2.objs.size h' (Led c) ∧
        (∀ p ∈ Led c, p.1 ≠ s.heap.objs.size ∧ p.1 ≠ I ∧ p.1 ≠ L) ∧ P i c ys) ?_ (n + 1)
      ⟨c₀, h₁, _, s.gens, 0, [], _, rfl, id, Nat.zero_le _, rfl, Nat.zero_le _, hst₁, fun b o e => old b o (F.keep b o e), hns₁, hacc, old _ _ heL, fun p hp => ⟨old _ _ (N p hp).1, (below _ (Heap.lt_size (N p hp).1)).1, (N p hp).2.2⟩,
        fun p hp => ⟨(below _ (Heap.lt_size (N p hp).1)).2, off p hp, (N p hp).2.1⟩, h0⟩
    intro k s' xo2
    obtain ⟨c, h', tk, g, i, ys, m', hr7, hg, hi, hr8, hyl, hst', hk', hn', hD', hL', N', off', hP⟩ := (xo2)
    revert c h' tk g i ys m' hr7 hg hi hr8 hyl hst' hk' hn' hD' hL' N' off' hP
    intro c h' tk g i ys m' hr7 hg hi hr8 hyl hst' hk' hn' hD' hL' N' off' hP
    obtain rfl := hr7
    obtain rfl := hr8
    by_cases hlt : i < n
    · refine W.item i _ _ _ hlt hst' ?_
      intro v h₂ tk₂ hPv hst₂ hk₂
      have k2 : ∀ b o, b ≠ I → h'.get? b = some o → h₂.get? b = some o := fun b o hb e => hk₂ b o (by simpa using hb) e
      refine wpAny_assign_Name (wpAny_storeName_local (lookup_relabel_local hx) (hn'.at' fun o e => k2 _ o (Ne.symm hCI) e) ?_ (by simp [compEnvC, relabel, hkind]))
      intro h₃ hn₃ hs₃
      replace hs₃ : Heap.SameBut H2.objs.size h₂ h₃ := hs₃
      have k3 : ∀ b o, b ≠ H2.objs.size → h₂.get? b = some o → h₃.get? b = some o := fun b o hb e => (hs₃.2 b hb).trans e
      have hst₃ : St (i + 1) h₃ := W.frame _ _ _ hst₂ fun b hb o e => k3 b o (fun q => hCf (by have q' : b = H2.objs.size := q; rw [← q']; exact hb)) e
      obtain ⟨oI, heI⟩ := hIo _ _ hst₃
      revert oI heI
      intro oI heI
      have F₃ : Fr h₀ H2.objs.size h₃ _ := ⟨hn₃, fun b o e => k3 b o (fun q => by rw [q, hC₀] at e; cases e) (k2 b o (fun q => by rw [q, hI₀] at e; cases e) (hk' b o e)), habC⟩
      have N₃ : News h₀ H2.objs.size h₃ (Led c ++ [(s.heap.objs.size, lst ys), (I, oI), (L, oL)]) := fun p hp => by
        rcases List.mem_append.mp hp with hp | hp
        · exact ⟨k3 _ _ (N' p hp).2.1 (k2 _ _ (off' p hp).2.1 (N' p hp).1), (N' p hp).2⟩
        · rcases List.mem_cons.mp hp with rfl | hp
          · exact ⟨k3 _ _ hDC (k2 _ _ (Ne.symm hDI) hD'), hDC, hD₀⟩
          · rcases List.mem_cons.mp hp with rfl | hp
            · exact ⟨heI, hCI, hI₀⟩
            · rw [List.mem_singleton.mp hp]
              exact ⟨k3 _ _ (Ne.symm hCL) (k2 _ _ hIL hL'), Ne.symm hCL, hL₀⟩
      have fin : ∀ ys' s₄, ys'.length ≤ i + 1 → QEnd h₀ H2.objs.size s.heap.objs.size I L s [(s.heap.objs.size, lst ys), (I, oI), (L, oL)] Led (P (i + 1)) ys' s₄ →
          ∃ (c : σ) (h' : Heap) (tk : Nat) (g : Array GenState) (m' : Str → Option Value), s₄ = { s with heap := h', toks := tk, gens := g } ∧ (AllBare s.gens → AllBare g) ∧ St (i + 1) h' ∧ (∀ b o, h₀.get? b = some o → h'.get? b = some o) ∧ h'.Ns H2.objs.size m' ∧
            h'.get? s.heap.objs.size = some (lst ys) ∧ h'.get? L = some oL ∧ News h₀ H2.objs.size h' (Led c) ∧ (∀ p ∈ Led c, p.1 ≠ s.heap.objs.size ∧ p.1 ≠ I ∧ p.1 ≠ L) ∧ P (i + 1) c ys' := by
        intro ys' s₄ hy' xo5
        obtain ⟨c', h₄, tk₄, g₄, m₄, news₄, hr9, hg₄, F₄, N₄, ho₄, hl₄, hn₄, hP₄⟩ := (xo5)
        revert c' h₄ tk₄ g₄ m₄ news₄ hr9 hg₄ F₄ N₄ ho₄ hl₄ hn₄ hP₄
        intro c' h₄ tk₄ g₄ m₄ news₄ hr9 hg₄ F₄ N₄ ho₄ hl₄ hn₄ hP₄
        obtain rfl := hr9
        refine ⟨c', h₄, tk₄, g₄, m₄, rfl, hg₄, ?_, F₄.keep, F₄.ns, (N₄ _ (ho₄ _ (.head _))).1, (N₄ _ (ho₄ _ (.tail _ (.tail _ (.head _))))).1, fun p hp => N₄ p (hl₄ p hp), hn₄, hP₄⟩
        refine W.frame _ _ _ hst₃ ?_
        intro b hb o e
        rcases hfp b hb with rfl | ⟨o₀, ho₀⟩ | ⟨o₀, ho₀⟩
        · rw [heI] at e; cases e; exact (N₄ _ (ho₄ _ (.tail _ (.head _)))).1
        · have : o₀ = o := by have := F₃.keep b o₀ ho₀; rw [e] at this; exact (Option.some.inj this).symm
          exact this ▸ F₄.keep b o₀ ho₀
        · have : o₀ = o := by have := (N₃ _ (List.mem_append_left _ (ho₀ c))).1; rw [e] at this; exact (Option.some.inj this).symm
          exact this ▸ (N₄ _ (hl₄ _ (ho₀ c'))).1
      refine wpAny_mono (turn c i v ys _ h₃ _ g s.heap.objs.size H2.objs.size oI oL hlt hPv hP hg off' (by simp) F₃ N₃) ?_ fun _ _ q => q.elim
      intro ok s₃ hq
      cases ok with
      | false =>
        simp only [Bool.false_eq_true, if_false] at hq ⊢
        obtain ⟨c', h₄, tk₄, g₄, m₄, hr10, hg₄, st₄, k₄, n₄, d₄, l₄, N₄, o₄, P₄⟩ := fin ys s₃ (by omega) hq
        revert c' h₄ tk₄ g₄ m₄ hr10 hg₄ st₄ k₄ n₄ d₄ l₄ N₄ o₄ P₄
        intro c' h₄ tk₄ g₄ m₄ hr10 hg₄ st₄ k₄ n₄ d₄ l₄ N₄ o₄ P₄
        obtain rfl := hr10
        exact ⟨n + 1 - (i + 1), by omega, c', h₄, tk₄, g₄, i + 1, ys, m₄, rfl, hg₄, hlt, rfl, by omega, st₄, k₄, n₄, d₄, l₄, N₄, o₄, P₄⟩
      | true =>
        simp only [if_true] at hq ⊢
        refine wpAny_mono hq ?_ fun _ _ q => q.elim
        intro y s₄ hq₄
        obtain ⟨c', h₄, tk₄, g₄, m₄, hr11, hg₄, st₄, k₄, n₄, d₄, l₄, N₄, o₄, P₄⟩ := fin (ys ++ [y]) s₄ (by simp; omega) hq₄
        revert c' h₄ tk₄ g₄ m₄ hr11 hg₄ st₄ k₄ n₄ d₄ l₄ N₄ o₄ P₄
        intro c' h₄ tk₄ g₄ m₄ hr11 hg₄ st₄ k₄ n₄ d₄ l₄ N₄ o₄ P₄
        obtain rfl := hr11
        refine append_at (hsz := by show ys.toArray.size ≤ sizeLine; rw [List.size_toArray]; omega) d₄ fun h₅ hs₅ hD₅ => ?_
        have k5 : ∀ b o, b ≠ s.heap.objs.size → h₄.get? b = some o → h₅.get? b = some o := fun b o hb e => (hs₅.2 b hb).trans e
        exact ⟨n + 1 - (i + 1), by omega, c', h₅, tk₄, g₄, i + 1, ys ++ [y], m₄, rfl, hg₄, hlt, rfl, by simp; omega, W.frame _ _ _ st₄ fun b hb o e => k5 b o (fun q => hDf (q ▸ hb)) e,
          fun b o e => k5 b o (fun q => by rw [q, hD₀] at e; cases e) (k₄ b o e), n₄.sameBut hs₅ (Ne.symm hDC), hD₅.trans (congrArg some (lst_snoc ys y)), k5 _ _ (Ne.symm hDL) l₄,
          fun p hp => ⟨k5 _ _ (o₄ p hp).1 (N₄ p hp).1, (N₄ p hp).2⟩, o₄, P₄⟩
    · obtain rfl : i = n := Nat.le_antisymm hi (Nat.not_lt.mp hlt)
      refine W.done _ _ _ hst' ?_
      intro h₂ tk₂ hk₂
      have k2 : ∀ b o, b ≠ I → h'.get? b = some o → h₂.get? b = some o := fun b o hb e => hk₂ b o (by simpa using hb) e
      refine hfin c ys s.heap.objs.size H2.objs.size m' h₂ tk₂ g hP hyl hg ⟨hoL.ns (k2 _ _ hIL hL'), fun b o e => k2 b o (fun q => by rw [q, hI₀] at e; cases e) (hk' b o e), habL⟩ ?_ (fun p hp => (off' p hp).1) (hn'.at' fun o e => k2 _ o (Ne.symm hCI) e) hCL hC₀ ?_
      · intro p hp
        rcases List.mem_cons.mp hp with rfl | hp
        · exact ⟨k2 _ _ (Ne.symm hDI) hD', hDL, hD₀⟩
        · exact ⟨k2 _ _ (off' p hp).2.1 (N' p hp).1, (off' p hp).2.2, (N' p hp).2.2⟩
      · intro p hp
        rcases List.mem_cons.mp hp with rfl | hp
        · exact hDC
        · exact (N' p hp).2.1
  exact codeAny_compStart_list (loop _ rfl) (W.self 0 _ _ _ hst₁ (loop _ rfl))
end

section
variable {prog : Program} {w : World} {A : Around} {E : Value → Shared → Prop} {env : Env} {h₀ : Heap} {L : Addr} {m : Str → Option Value}

theorem fin_none {s : Shared} {σ : Type} {Led : σ → List (Addr × Obj)} {Q : Value → Shared → Prop} {c : σ} {ys : List Value} {D C : Addr} {m' : Str → Option Value} {h : Heap} {tk : Nat} {g : Array GenState}
    (F : Fr h₀ L h m) (N : News h₀ L h ((D, lst ys) :: Led c)) (hn : h.Ns C m') (hCL : C ≠ L) (hC₀ : h₀.get? C = none) (off : ∀ p ∈ (D, lst ys) :: Led c, p.1 ≠ C)
    (q : ∀ h' tk, Fr h₀ L h' m → News h₀ L h' ((D, lst ys) :: Led c) → Q (.ref D) { s with heap := h', toks := tk, gens := g }) :
    compPost (model prog w) A E none Q (.ref D) C (.ok .next) { s with heap := h, toks := tk, gens := g } :=
  ⟨m', hn, fun h' hs => q h' tk (F.change hs hCL hC₀) fun p hp => ⟨hs.extBut _ _ (off p hp) (N p hp).1, (N p hp).2⟩⟩

theorem fin_some {s : Shared} {σ : Type} {Led : σ → List (Addr × Obj)} {Q : Value → Shared → Prop} {c : σ} {ys : List Value} {D C : Addr} {m' : Str → Option Value} {h : Heap} {tk : Nat} {g : Array GenState} {y : Str} {py : Pos}
    (hLe : env.locals = L) (hy : env.kindOf y = some .local) (hp : (env.scope.kind == .class || (env.scope.kind == .module && env.locals != env.globals)) = false)
    (F : Fr h₀ L h m) (N : News h₀ L h ((D, lst ys) :: Led c)) (hn : h.Ns C m') (hCL : C ≠ L) (hC₀ : h₀.get? C = none) (off : ∀ p ∈ (D, lst ys) :: Led c, p.1 ≠ C)
    (q : ∀ h' tk, Fr h₀ L h' (fun z => if z = y then some (.ref D) else m z) → News h₀ L h' ((D, lst ys) :: Led c) → Q .none { s with heap := h', toks := tk, gens := g }) :
    compPost (model prog w) A E (some (assign (.Name y py) env)) Q (.ref D) C (.ok .next) { s with heap := h, toks := tk, gens := g } := by
  subst hLe
  show wpAny _ A (assign (.Name y py) env (.ref D)) _ _ _
  refine wpAny_assign_Name (wpAny_storeName_local hy F.ns (fun h₂ hn₂ hs₂ => ?_) hp)
  replace hs₂ : Heap.SameBut env.locals h h₂ := hs₂
  have F₂ := F.set hn₂ hs₂
  refine ⟨m', hn.sameBut hs₂ hCL, fun h'' hs'' => q h'' _ (F₂.change hs'' hCL hC₀) fun p hp => ?_⟩
  have z : h₂.get? p.1 = some p.2 := hs₂.extBut _ _ (N p hp).2.1 (N p hp).1
  exact ⟨hs''.extBut _ _ (off p hp) z, (N p hp).2⟩

/-- a comprehension as a value -/
theorem lc_eval {s : Shared} {elt iter : Expr} {x : Str} {px : Pos} {ifs : List Expr} {scope : Scope} {cl : List (Str × Addr)} {pos : Pos} {Q : Value → Shared → Prop}
    (hclos : closureFor scope env = pure cl) (hkind : scope.kind = .function) (hnames : ∀ y ∈ scope.names, y.2 = .local → scope.names.lookup y.1 = some .local)
    (h : wpAny (model prog w) A (eval iter env) (fun xv s₁ => wpAny (model prog w) A (pyIter xv) (Blk prog w A E env elt iter x px ifs scope cl pos none Q) E s₁) E s)
    (hs : ∀ x, foldedSetIterable iter env x = pure x := by intros _; rfl) :
    wpAny (model prog w) A (eval (.ListComp elt [⟨.Name x px, iter, ifs, 0⟩] scope pos) env) Q E s := by
  rw [eval_ListComp]
  exact wpAny_comprehension_free (use := none) rfl hs hclos hkind hnames h

/-- a comprehension that is stored under a name of the frame -/
theorem lc_assign {s : Shared} {elt iter : Expr} {x y : Str} {px py : Pos} {ifs : List Expr} {scope : Scope} {cl : List (Str × Addr)} {pos spos : Pos} {Q : Flow → Shared → Prop}
    (hsw : swapsWith (.ListComp elt [⟨.Name x px, iter, ifs, 0⟩] scope pos) (some (.Name y py)) spos.line env = pure true)
    (hclos : closureFor scope env = pure cl) (hkind : scope.kind = .function) (hnames : ∀ y ∈ scope.names, y.2 = .local → scope.names.lookup y.1 = some .local)
    (h : wpAny (model prog w) A (eval iter env) (fun xv s₁ => wpAny (model prog w) A (pyIter xv) (Blk prog w A E env elt iter x px ifs scope cl pos (some (assign (.Name y py) env)) (fun _ s' => Q .next s')) E s₁) E s)
    (hs : ∀ x, foldedSetIterable iter env x = pure x := by intros _; rfl) :
    wpAny (model prog w) A (exec (.Assign [.Name y py] (.ListComp elt [⟨.Name x px, iter, ifs, 0⟩] scope pos) spos) env) Q E s := by
  rw [exec_Assign_Name_used _ _ _ _ hsw]
  refine wpAny_bind (wpAny_standAt (wpAny_bind ?_))
  show wpAny _ A (do let _ ← comprehension (.ListComp elt [⟨.Name x px, iter, ifs, 0⟩] scope pos) scope env _ (newList []) false (eval iter env) (some (assign (.Name y py) env))) _ _ s
  refine wpAny_bind (wpAny_mono (wpAny_comprehension_free (use := some (assign (.Name y py) env)) (Q := fun _ s' => Q .next s') rfl hs hclos hkind hnames h)
    (fun _ s' hq => wpAny_pure (wpAny_pure hq)) fun _ _ e => e)
end
end Mine
end

section
theorem Mine.top_off_CS : True := by
  w_top off
  trivial
local macro_rules | `(tactic| omega) => `(tactic| first | lia | omega (config := {}))
open PySem PySem.W PyProof.Rows PySem.Spec PySem.Calls
namespace Mine
open PyProof.Rows.LCg (lst lst_snoc NsObj ns_obj fr_but news_but)

section
variable {prog : Program} {w : World} {A : Around} {E : Value → Shared → Prop} {env : Env} {h₀ : Heap} {L : Addr} {m : Str → Option Value}

/-- what the turns of a comprehension and its end owe -/
structure CompOf {σ : Type} (prog : Program) (w : World) (A : Around) (E : Value → Shared → Prop) (env : Env) (h₀ : Heap) (L : Addr) (m : Str → Option Value) (elt : Expr) (x : Str) (ifs : List Expr) (scope : Scope) (cl : List (Str × Addr)) (use : Option (Value → Sem Unit)) (Q : Value → Shared → Prop)
    (n : Nat) (Pv : Nat → Value → Prop) (Led : σ → List (Addr × Obj)) (P : Nat → σ → List Value → Prop) (s : Shared) (I : Addr) : Prop where
  turn : ∀ (c : σ) i v ys (m₂ : Str → Option Value) h tk g D C oI oL, i < n → Pv i v → P i c ys → (AllBare s.gens → AllBare g) → (∀ p ∈ Led c, p.1 ≠ D ∧ p.1 ≠ I ∧ p.1 ≠ L) → m₂ x = some v →
      Fr h₀ C h m₂ → News h₀ C h (Led c ++ [(D, lst ys), (I, oI), (L, oL)]) →
      wpAny (model prog w) A (tests (compEnvC scope cl C env) ifs) (fun ok s₃ =>
        if ok = true then wpAny (model prog w) A (eval elt (compEnvC scope cl C env)) (fun y s₄ => QEnd h₀ C D I L s [(D, lst ys), (I, oI), (L, oL)] Led (P (i + 1)) (ys ++ [y]) s₄) (fun _ _ => False) s₃
        else QEnd h₀ C D I L s [(D, lst ys), (I, oI), (L, oL)] Led (P (i + 1)) ys s₃) (fun _ _ => False) { s with heap := h, toks := tk, gens := g }
  fin : ∀ (c : σ) ys D C (m' : Str → Option Value) h tk g, P n c ys → ys.length ≤ n → (AllBare s.gens → AllBare g) → Fr h₀ L h m → News h₀ L h ((D, lst ys) :: Led c) → (∀ p ∈ Led c, p.1 ≠ D) → h.Ns C m' → C ≠ L → h₀.get? C = none → (∀ p ∈ (D, lst ys) :: Led c, p.1 ≠ C) →
      compPost (model prog w) A E use Q (.ref D) C (.ok .next) { s with heap := h, toks := tk, gens := g }

theorem CompOf.none {σ : Type} {elt : Expr} {x : Str} {ifs : List Expr} {scope : Scope} {cl : List (Str × Addr)} {Q : Value → Shared → Prop} {n : Nat} {Pv : Nat → Value → Prop} {Led : σ → List (Addr × Obj)} {P : Nat → σ → List Value → Prop} {s : Shared} {I : Addr}
    (turn : ∀ (c : σ) i v ys (m₂ : Str → Option Value) h tk g D C oI oL, i < n → Pv i v → P i c ys → (AllBare s.gens → AllBare g) → (∀ p ∈ Led c, p.1 ≠ D ∧ p.1 ≠ I ∧ p.1 ≠ L) → m₂ x = some v →
      Fr h₀ C h m₂ → News h₀ C h (Led c ++ [(D, lst ys), (I, oI), (L, oL)]) →
      wpAny (model prog w) A (tests (compEnvC scope cl C env) ifs) (fun ok s₃ =>
        if ok = true then wpAny (model prog w) A (eval elt (compEnvC scope cl C env)) (fun y s₄ => QEnd h₀ C D I L s [(D, lst ys), (I, oI), (L, oL)] Led (P (i + 1)) (ys ++ [y]) s₄) (fun _ _ => False) s₃
        else QEnd h₀ C D I L s [(D, lst ys), (I, oI), (L, oL)] Led (P (i + 1)) ys s₃) (fun _ _ => False) { s with heap := h, toks := tk, gens := g })
    (fin : ∀ (c : σ) ys D h tk g, P n c ys → ys.length ≤ n → (AllBare s.gens → AllBare g) → (∀ p ∈ Led c, p.1 ≠ D) → Fr h₀ L h m → News h₀ L h ((D, lst ys) :: Led c) → Q (.ref D) { s with heap := h, toks := tk, gens := g }) :
    CompOf prog w A E env h₀ L m elt x ifs scope cl none Q n Pv Led P s I :=
  ⟨turn, fun c ys D C m' h tk g hP hy hg F N off hn hCL hC₀ offC => fin_none F N hn hCL hC₀ offC fun h' tk F' N' => fin c ys D h' tk g hP hy hg off F' N'⟩
theorem CompOf.some {σ : Type} {elt : Expr} {x y : Str} {py : Pos} {ifs : List Expr} {scope : Scope} {cl : List (Str × Addr)} {Q : Value → Shared → Prop} {n : Nat} {Pv : Nat → Value → Prop} {Led : σ → List (Addr × Obj)} {P : Nat → σ → List Value → Prop} {s : Shared} {I : Addr}
    (hLe : env.locals = L) (hy : env.kindOf y = some .local) (hp : (env.scope.kind == .class || (env.scope.kind == .module && env.locals != env.globals)) = false)
    (turn : ∀ (c : σ) i v ys (m₂ : Str → Option Value) h tk g D C oI oL, i < n → Pv i v → P i c ys → (AllBare s.gens → AllBare g) → (∀ p ∈ Led c, p.1 ≠ D ∧ p.1 ≠ I ∧ p.1 ≠ L) → m₂ x = some v →
      Fr h₀ C h m₂ → News h₀ C h (Led c ++ [(D, lst ys), (I, oI), (L, oL)]) →
      wpAny (model prog w) A (tests (compEnvC scope cl C env) ifs) (fun ok s₃ =>
        if ok = true then wpAny (model prog w) A (eval elt (compEnvC scope cl C env)) (fun y s₄ => QEnd h₀ C D I L s [(D, lst ys), (I, oI), (L, oL)] Led (P (i + 1)) (ys ++ [y]) s₄) (fun _ _ => False) s₃
        else QEnd h₀ C D I L s [(D, lst ys), (I, oI), (L, oL)] Led (P (i + 1)) ys s₃) (fun _ _ => False) { s with heap := h, toks := tk, gens := g })
    (fin : ∀ (c : σ) ys D h tk g, P n c ys → ys.length ≤ n → (AllBare s.gens → AllBare g) → (∀ p ∈ Led c, p.1 ≠ D) → Fr h₀ L h (fun z => if z = y then some (.ref D) else m z) → News h₀ L h ((D, lst ys) :: Led c) → Q .none { s with heap := h, toks := tk, gens := g }) :
    CompOf prog w A E env h₀ L m elt x ifs scope cl (some (assign (.Name y py) env)) Q n Pv Led P s I :=
  ⟨turn, fun c ys D C m' h tk g hP hyl hg F N off hn hCL hC₀ offC => fin_some hLe hy hp F N hn hCL hC₀ offC fun h' tk F' N' => fin c ys D h' tk g hP hyl hg off F' N'⟩

theorem comp_range {σ : Type} {elt iter : Expr} {x : Str} {px : Pos} {ifs : List Expr} {scope : Scope} {cl : List (Str × Addr)} {pos : Pos} {use : Option (Value → Sem Unit)} {Q : Value → Shared → Prop} {s : Shared}
    {r : Addr} {a₀ b₀ cs : Int} {t₀ u₀ v₀ : Tok} {n : Nat} (Led : σ → List (Addr × Obj)) (P : Nat → σ → List Value → Prop) (c₀ : σ)
    (hh : A.handled = none) (hr : IsRange s.heap r a₀ b₀ cs t₀ u₀ v₀) (hsmall : Builtin.Range.small a₀ b₀ cs = true) (hn : Builtin.Range.rangeSize a₀ b₀ cs = (n : Int)) (hsz : n ≤ sizeLine)
    (hcell : ∀ y ∈ scope.names, y.2 ≠ .cell) (hkind : scope.kind = .function) (hx : scope.names.lookup x = some .local)
    (F : Fr h₀ L s.heap m) (N : News h₀ L s.heap (Led c₀)) (h0 : P 0 c₀ [])
    (h : ∀ g, CompOf prog w A E env h₀ L m elt x ifs scope cl use Q n (fun i v => ∃ t, v = .int (a₀ + i * cs) t) Led P { s with heap := g } s.heap.objs.size) :
    wpAny (model prog w) A (pyIter (.ref r)) (Blk prog w A E env elt iter x px ifs scope cl pos use Q) E s := by
  refine wpAny_pyIter_range hr hsmall ?_
  refine blockG (s := { s with heap := _ }) (n := n) Led P c₀ (Walks.range hh s.heap.objs.size a₀ cs n) hsz (fun i h st => ⟨_, st⟩) (fun b hb => .inl (List.mem_singleton.mp hb)) (fun b hb => ?_) hcell hkind hx ?_ (F.push _)
    (fun p hp => ⟨Heap.get?_push_of_some _ (N p hp).1, (N p hp).2⟩) (Nat.ne_of_lt F.ns.lt) (next_is_new F) (fun p hp => Nat.ne_of_lt (Heap.lt_size (N p hp).1)) h0 ?_ ?_
  · rw [List.mem_singleton.mp hb]; exact Nat.lt_of_lt_of_eq (Nat.lt_succ_self _) (Heap.size_push _ _).symm
  · show IsRangeIter _ _ _ _ _
    rw [hn]; simpa using Heap.get?_push_size _ rfl
  · exact fun c i v ys m₂ h' tk g D C oI oL hi hv hP hg off hm F' N' => (h _).turn c i v ys m₂ h' tk g D C oI oL hi hv hP hg off hm F' N'
  · exact (h _).fin

theorem comp_list {σ : Type} {elt iter : Expr} {x : Str} {px : Pos} {ifs : List Expr} {scope : Scope} {cl : List (Str × Addr)} {pos : Pos} {use : Option (Value → Sem Unit)} {Q : Value → Shared → Prop} {s : Shared}
    {ax : Addr} {items : Array Value} (Led : σ → List (Addr × Obj)) (P : Nat → σ → List Value → Prop) (c₀ : σ)
    (hh : A.handled = none) (hl : s.heap.IsList ax items) (hax : (∃ o, h₀.get? ax = some o) ∨ ∃ o, ∀ c, (ax, o) ∈ Led c) (hsz : items.size ≤ sizeLine)
    (hcell : ∀ y ∈ scope.names, y.2 ≠ .cell) (hkind : scope.kind = .function) (hx : scope.names.lookup x = some .local)
    (F : Fr h₀ L s.heap m) (N : News h₀ L s.heap (Led c₀)) (h0 : P 0 c₀ [])
    (h : ∀ g, CompOf prog w A E env h₀ L m elt x ifs scope cl use Q items.size (fun i v => items[i]? = some v) Led P { s with heap := g } s.heap.objs.size) :
    wpAny (model prog w) A (pyIter (.ref ax)) (Blk prog w A E env elt iter x px ifs scope cl pos use Q) E s := by
  obtain ⟨ol, hol, _⟩ := id hl
  have hlt : ax < s.heap.objs.size := Heap.lt_size hol
  have hne : ax ≠ s.heap.objs.size := Nat.ne_of_lt hlt
  refine wpAny_pyIter_list hl ?_
  refine blockG (s := { s with heap := _ }) (n := items.size) Led P c₀ (Walks.list hh s.heap.objs.size ax hne items) hsz ?_ (fun b hb => ?_) (fun b hb => ?_) hcell hkind hx ⟨⟨_, Heap.get?_push_size _ rfl, rfl, rfl⟩, hl.at fun o e => Heap.get?_push_of_some _ e⟩ (F.push _)
    (fun p hp => ⟨Heap.get?_push_of_some _ (N p hp).1, (N p hp).2⟩) (Nat.ne_of_lt F.ns.lt) (next_is_new F) (fun p hp => Nat.ne_of_lt (Heap.lt_size (N p hp).1)) h0 ?_ ?_
  · rintro i h ⟨⟨o, ho, _⟩, _⟩
    exact ⟨o, ho⟩
  · rcases List.mem_cons.mp hb with e | hb
    · exact .inl e
    · rw [List.mem_singleton.mp hb]; exact .inr hax
  · refine Nat.lt_of_lt_of_eq ?_ (Heap.size_push _ _).symm
    rcases List.mem_cons.mp hb with e | hb
    · rw [e]; exact Nat.lt_succ_self _
    · rw [List.mem_singleton.mp hb]; exact Nat.lt_succ_of_lt hlt
  · exact fun c i v ys m₂ h' tk g D C oI oL hi hv hP hg off hm F' N' => (h _).turn c i v ys m₂ h' tk g D C oI oL hi hv hP hg off hm F' N'
  · exact (h _).fin

theorem comp_str {σ : Type} {elt iter : Expr} {x : Str} {px : Pos} {ifs : List Expr} {scope : Scope} {cl : List (Str × Addr)} {pos : Pos} {use : Option (Value → Sem Unit)} {Q : Value → Shared → Prop} {s : Shared}
    {y : Str} {t : Tok} (Led : σ → List (Addr × Obj)) (P : Nat → σ → List Value → Prop) (c₀ : σ)
    (hh : A.handled = none) (hsz : y.cps.size ≤ sizeLine) (ha : y.cps.all (· < 128) = true)
    (hcell : ∀ y ∈ scope.names, y.2 ≠ .cell) (hkind : scope.kind = .function) (hx : scope.names.lookup x = some .local)
    (F : Fr h₀ L s.heap m) (N : News h₀ L s.heap (Led c₀)) (h0 : P 0 c₀ [])
    (h : ∀ g, CompOf prog w A E env h₀ L m elt x ifs scope cl use Q y.cps.size (SignAt y) Led P { s with heap := g } s.heap.objs.size) :
    wpAny (model prog w) A (pyIter (.str y t)) (Blk prog w A E env elt iter x px ifs scope cl pos use Q) E s := by
  refine wpAny_pyIter_ascii ha ?_
  refine blockG (s := { s with heap := _ }) (n := y.cps.size) Led P c₀ (Walks.strAscii hh s.heap.objs.size y t) hsz ?_ (fun b hb => .inl (List.mem_singleton.mp hb)) (fun b hb => ?_) hcell hkind hx ⟨_, Heap.get?_push_size _ rfl, rfl, rfl⟩ (F.push _)
    (fun p hp => ⟨Heap.get?_push_of_some _ (N p hp).1, (N p hp).2⟩) (Nat.ne_of_lt F.ns.lt) (next_is_new F) (fun p hp => Nat.ne_of_lt (Heap.lt_size (N p hp).1)) h0 ?_ ?_
  · rintro i h ⟨o, ho, _⟩
    exact ⟨o, ho⟩
  · rw [List.mem_singleton.mp hb]; exact Nat.lt_of_lt_of_eq (Nat.lt_succ_self _) (Heap.size_push _ _).symm
  · exact fun c i v ys m₂ h' tk g D C oI oL hi hv hP hg off hm F' N' => (h _).turn c i v ys m₂ h' tk g D C oI oL hi hv hP hg off hm F' N'
  · exact (h _).fin
end

section
variable {prog : Program} {w : World} {A : Around} {s : Shared} {p : Program} {loose : List Str} {mean : ExcName → Option Value} {mg mb : Str → Option Value} {K : Frag}
  {name qual : Str} {params : Arguments} {body : List Stmt} {scope : Scope} {dV kV doc pm cdv ct oc : Value} {an od : Option Addr} {osl : Array (Option Value)} {f : Addr} {args : List Value} {binds : List (Str × Value)}
  {Q E : Value → Shared → Prop}
theorem call_fnC (X : K.In s.heap) (T : Top p loose mean mg mb s.heap)
    (ho : K.lookup f = some ⟨oc, od, .func (fnOf name qual params body scope dV kV doc pm an cdv ct), osl⟩) (hcd : codeIn K cdv qual = true) (hroom : A.depth < recursionLimit)
    (hbind : BindsTo s (fnOf name qual params body scope dV kV doc pm an cdv ct) ⟨args, []⟩ binds)
    (hkind : ∀ n, ∀ x ∈ binds, scope.names.lookup x.1 = some .local ∨ (scope.names.lookup x.1 = some .cell ∧ ((cellsFrom n scope.names []).lookup x.1).isSome = true))
    (hnd : ((cellsFrom 0 scope.names []).map (·.1)).Nodup)
    (h : ∀ L' h₁ tk cells, L' = s.heap.objs.size → Fr s.heap L' h₁ (bindL (envOfC qual scope L' f cdv).kindOf binds fun _ => none) → News s.heap L' h₁ cells →
      CellsAre (bindC (envOfC qual scope L' f cdv).kindOf binds fun _ => none) (cellsFrom (L' + 1) scope.names []) cells →
      wpAny (model prog w) (A.deeper (envOfC qual scope L' f cdv)) (execs body (envOfC qual scope L' f cdv))
        (fun fl s' => Q (match fl with | .ret v => v | _ => .none) s') (fun _ _ => False) { s with heap := h₁, toks := tk })
    (hco : scope.isCoroutine = false) (hgen : scope.isGenerator = false) (hk : scope.kind = .function) :
    wpAny (model prog w) A (call (.ref f) args) Q E s := by
  refine wpAny_call (codeAny_call_function (fd := fnOf name qual params body scope dV kV doc pm an cdv ct) (body := body) hroom (X _ _ ho) rfl hco hgen rfl (codeRec_of X hcd) (hbind _ _ _ _ ?_))
  refine wpAny_newFunctionEnv_cells hk (hkind _) fun env' he s' x => ?_
  subst he
  refine ⟨T.nolimit.keeps x.toInCall.keep, codeAny_func ?_⟩
  obtain ⟨h₁, tk, rfl, _⟩ := x.done
  have hk₁ := x.toInCall.keep
  obtain ⟨cells, NC, Y⟩ := Cl.news (h₀ := s.heap) (Nat.le_refl _) fun n c hm => ⟨x.cell n c (lookup_of_mem_nodup (cellsFrom_names scope.names 0 (s.heap.objs.size + 1) [] [] rfl ▸ hnd) hm), x.above n c hm⟩
  exact wpAny_mono (h s.heap.objs.size h₁ tk cells rfl ⟨x.toInCall.ns, fun b o e => hk₁ b o e, Nat.le_refl _⟩ NC Y) (fun fl s' hl => hl) fun _ _ y => y.elim
end
end Mine
end

section
theorem Mine.top_off_LS : True := by
  w_top off
  trivial
local macro_rules | `(tactic| omega) => `(tactic| first | lia | omega (config := {}))
open PySem PySem.W PyProof.Rows PySem.Spec PySem.Calls
namespace Mine

/-- what a slice from x to y takes -/
noncomputable def slS (ws : List Str) (x y : Int) : List Str := (ws.drop x.toNat).take (y.toNat - x.toNat)

theorem sb_run {x y : Int} {n : Nat} (hx : 0 ≤ x) (hy : 0 ≤ y) : sliceBounds (some x) (some y) none n = (((min x.toNat n : Nat) : Int), ((min y.toNat n : Nat) : Int), 1) := by
  simp only [sliceBounds, Option.getD_none, show (1 : Int) > 0 by decide, if_true, if_neg (show ¬ (x < 0) by omega), if_neg (show ¬ (y < 0) by omega)]
  congr 1
  · omega
  · congr 1; omega
theorem sb_upto {y : Int} {n : Nat} (hy : 0 ≤ y) : sliceBounds none (some y) none n = (((0 : Nat) : Int), ((min y.toNat n : Nat) : Int), 1) := by
  simp only [sliceBounds, Option.getD_none, show (1 : Int) > 0 by decide, if_true, if_neg (show ¬ (y < 0) by omega)]
  congr 1; congr 1; omega
theorem sb_from {x : Int} {n : Nat} (hx : 0 ≤ x) : sliceBounds (some x) none none n = (((min x.toNat n : Nat) : Int), ((n : Nat) : Int), 1) := by
  simp only [sliceBounds, Option.getD_none, show (1 : Int) > 0 by decide, if_true, if_neg (show ¬ (x < 0) by omega)]
  congr 1; omega

theorem strs_run {vs : List Value} {ws : List Str} {x y : Int} (h : StrsAre vs ws) (hx : 0 ≤ x) (hy : 0 ≤ y) : StrsAre (slicePick vs.toArray (some x) (some y) none).toList (slS ws x y) := by
  have hl := StrsAre.length h
  rw [kmk_pick_nat _ (sb_run hx hy)]
  have e : slS ws x y = (ws.drop (min x.toNat vs.toArray.size)).take (min y.toNat vs.toArray.size - min x.toNat vs.toArray.size) := by
    unfold slS
    rw [List.size_toArray, hl]
    by_cases hq : x.toNat ≤ ws.length
    · rw [Nat.min_eq_left hq]
      have := kmk_take_min (ws.drop x.toNat) (y.toNat - x.toNat)
      rw [← this]
      congr 1
      rw [List.length_drop]; omega
    · rw [Nat.min_eq_right (show ws.length ≤ x.toNat by omega), List.drop_of_length_le (show ws.length ≤ x.toNat by omega), List.drop_of_length_le (Nat.le_refl _)]
      simp
  rw [e]
  exact (h.drop' _).take' _
theorem strs_upto {vs : List Value} {ws : List Str} {y : Int} (h : StrsAre vs ws) (hy : 0 ≤ y) : StrsAre (slicePick vs.toArray none (some y) none).toList (slS ws 0 y) := by
  have hl := StrsAre.length h
  rw [kmk_pick_nat _ (sb_upto hy)]
  have e : slS ws 0 y = (ws.drop 0).take (min y.toNat vs.toArray.size - 0) := by
    unfold slS
    rw [List.size_toArray, hl, Nat.sub_zero]
    show (ws.drop 0).take (y.toNat - 0) = _
    rw [Nat.sub_zero, List.drop_zero, kmk_take_min]
  rw [e]
  exact (h.drop' _).take' _
theorem strs_from {vs : List Value} {ws : List Str} {x : Int} (h : StrsAre vs ws) (hx : 0 ≤ x) : StrsAre (slicePick vs.toArray (some x) none none).toList (slS ws x ws.length) := by
  have hl := StrsAre.length h
  rw [kmk_pick_nat _ (sb_from hx)]
  have e : slS ws x ws.length = (ws.drop (min x.toNat vs.toArray.size)).take (vs.toArray.size - min x.toNat vs.toArray.size) := by
    unfold slS
    rw [List.size_toArray, hl]
    by_cases hq : x.toNat ≤ ws.length
    · rw [Nat.min_eq_left hq]; congr 1
    · rw [Nat.min_eq_right (show ws.length ≤ x.toNat by omega), List.drop_of_length_le (show ws.length ≤ x.toNat by omega), List.drop_of_length_le (Nat.le_refl _)]
      simp
  rw [e]
  exact (h.drop' _).take' _
theorem slS_len (ws : List Str) (x y : Int) : (slS ws x y).length ≤ ws.length := by
  unfold slS; rw [List.length_take, List.length_drop]; omega

section
variable {prog : Program} {w : World} {A : Around} {E : Value → Shared → Prop} {s : Shared} {h₀ : Heap} {L l : Addr} {m : Str → Option Value} {news : List (Addr × Obj)} {value slice : PySem.Expr} {vs : List Value} {ws zs : List Str} {vl vu : Value} {lo hi : Option Int} {x y : Int} {c n : Nat} {Q : Value → Shared → Prop}

theorem slice_strs (F : Fr h₀ L s.heap m) (N : News h₀ L s.heap news) (hm : (l, W.listOf vs.toArray c) ∈ news) (pl : IsPart vl lo) (pu : IsPart vu hi) (hw : StrsAre vs ws) (hz : StrsAre (slicePick vs.toArray lo hi none).toList zs)
    (hn : vs.length = n) (hn' : n ≤ 1000)
    (h : ∀ D us h', Fr h₀ L h' m → News h₀ L h' ((D, W.listOf (List.toArray us) 0) :: news) → (∀ p ∈ news, p.1 < D) → StrsAre us zs → us.length = zs.length → us.length ≤ n → Q (.ref D) { s with heap := h' })
    (hs : subscripted slice false (.ref l) (.ref s.heap.objs.size) = operate [.ref s.heap.objs.size, .ref l] (getItem (.ref l) (.ref s.heap.objs.size))) (ht : ∀ r, letTemporaryGo value (.ref l) r = pure ()) :
    wpAny (model prog w) A (subscriptTail value slice (.ref l) (.ref s.heap.objs.size)) Q E { s with heap := s.heap.push { cls := .type "slice", data := .fields #[vl, vu, .none] } } := by
  refine kmk_slice F N ⟨_, (N _ hm).1, rfl, c, rfl⟩ pl pu (fun D h' F' N' l1 => h D (slicePick vs.toArray lo hi none).toList h' F' ?_ l1 hz (StrsAre.length hz) ?_) hs ht (by rw [List.size_toArray, sizeLine_eq]; omega)
  · rw [Array.toArray_toList]; exact N'
  · have := slicePick_size_le vs.toArray lo hi none
    simp only [List.size_toArray, Array.length_toList] at this ⊢
    omega

theorem item_strs {i : Int} {u : Tok} (N : News h₀ L s.heap news) (hm : (l, W.listOf vs.toArray c) ∈ news) (hw : StrsAre vs ws) (hn : vs.length = n) (hn' : n ≤ 1000) (h0 : 0 ≤ i) (h1 : i < (n : Int))
    (h : ∀ t', Q (.str (ws.getD i.toNat PySem.Str.empty) t') s)
    (hs : subscripted slice false (.ref l) (.int i u) = operate [.ref l, .int i u] (getItem (.ref l) (.int i u)) := by with_unfolding_all rfl) :
    wpAny (model prog w) A (subscriptTail value slice (.ref l) (.int i u)) Q E s := by
  have hl := StrsAre.length hw
  exact KTb.item_list ⟨_, (N _ hm).1, rfl, c, rfl⟩ hw h0 (by omega) (by omega) (fun t' _ => h t') hs

theorem join_strs {x : Str} {t : Tok} {k : Nat} (N : News h₀ L s.heap news) (hm : (l, W.listOf vs.toArray c) ∈ news) (hw : StrsAre vs ws) (hx : x.length ≤ 16) (hk : (ws.map (·.length)).sum + ws.length * x.length ≤ k) (hk' : k ≤ 1000)
    (h : ∀ t' k, Q (.str (Txt.join x ws) t') { s with toks := k }) : wpAny (model prog w) A (call (.builtin "str.join") [.str x t, .ref l]) Q E s :=
  join_list (items := vs.toArray) ⟨_, (N _ hm).1, rfl, c, rfl⟩ hw (by omega) h

theorem add_strs {l b : Addr} {us : List Value} {ys : List Str} {d : Nat} (F : Fr h₀ L s.heap m) (N : News h₀ L s.heap news) (hm : (l, W.listOf vs.toArray c) ∈ news) (hb : (b, W.listOf us.toArray d) ∈ news) (hw : StrsAre vs ws) (hy : StrsAre us ys)
    (h1 : vs.length ≤ 1000) (h2 : us.length ≤ 1000)
    (h : ∀ D h', Fr h₀ L h' m → News h₀ L h' ((D, W.listOf (vs ++ us).toArray 0) :: news) → (∀ p ∈ news, p.1 < D) → StrsAre (vs ++ us) (ws ++ ys) → Q (.ref D) { s with heap := h' }) :
    wpAny (model prog w) A (binaryOp .Add (.ref l) (.ref b)) Q E s :=
  add_lists F N ⟨_, (N _ hm).1, rfl, c, rfl⟩ ⟨_, (N _ hb).1, rfl, d, rfl⟩ (fun h' F' N' => h _ h' F' N' (fun p hp => Heap.lt_size (N p hp).1) (hw.append' hy)) (by rw [sizeLine_eq]; omega)
end
end Mine
end

section
theorem Mine.top_off_FC : True := by
  w_top off
  trivial
local macro_rules | `(tactic| omega) => `(tactic| first | lia | omega (config := {}))
open PySem PySem.W PyProof.Rows PySem.Spec PySem.Calls
namespace Mine
open PyProof.Rows.LCg (lst lst_snoc NsObj ns_obj fr_but news_but)

/-- the end of a turn of a loop whose target is a cell -/
noncomputable def KEnd {σ : Type} (h₀ : Heap) (L kc : Addr) (ok : Obj) (I : Addr) (oI : Obj) (s : Shared) (Led : σ → List (Addr × Obj)) (ps : σ → List (Str × Value)) (stored : List Str) (m₀ : Str → Option Value) (P : σ → Prop) (s₂ : Shared) : Prop :=
  ∃ (c : σ) (h' : Heap) (tk : Nat) (g : Array GenState) (m' : Str → Option Value) (news' : List (Addr × Obj)), s₂ = { s with heap := h', toks := tk, gens := g } ∧ (AllBare s.gens → AllBare g) ∧ Fr h₀ L h' m' ∧ News h₀ L h' news' ∧
    (kc, ok) ∈ news' ∧ (∀ p ∈ Led c, p ∈ news') ∧ (I, oI) ∈ news' ∧ (∀ p ∈ Led c, p.1 ≠ I ∧ p.1 ≠ kc) ∧ (∀ p ∈ ps c, m' p.1 = some p.2) ∧ (∀ z, (∀ p ∈ ps c, z ≠ p.1) → stored.contains z = false → m' z = m₀ z) ∧ P c
theorem k_end {σ : Type} {h₀ : Heap} {L kc : Addr} {ok : Obj} {I : Addr} {oI : Obj} {s : Shared} {Led : σ → List (Addr × Obj)} {ps : σ → List (Str × Value)} {stored : List Str} {m₀ m' : Str → Option Value} {P : σ → Prop} {h' : Heap} {tk : Nat} {g : Array GenState} {news' : List (Addr × Obj)} (c : σ)
    (F : Fr h₀ L h' m') (N : News h₀ L h' news') (hg : AllBare s.gens → AllBare g) (hk₀ : (kc, ok) ∈ news') (hl : ∀ p ∈ Led c, p ∈ news') (hI : (I, oI) ∈ news') (hn : ∀ p ∈ Led c, p.1 ≠ I ∧ p.1 ≠ kc) (hk : ∀ p ∈ ps c, m' p.1 = some p.2)
    (hr : ∀ z, (∀ p ∈ ps c, z ≠ p.1) → stored.contains z = false → m' z = m₀ z) (hp : P c) : KEnd h₀ L kc ok I oI s Led ps stored m₀ P { s with heap := h', toks := tk, gens := g } :=
  ⟨c, h', tk, g, m', news', rfl, hg, F, N, hk₀, hl, hI, hn, hk, hr, hp⟩

section
variable {prog : Program} {w : World} {A : Around} {E' : Value → Shared → Prop} {s : Shared} {env : Env} {h₀ : Heap} {x : Str} {px : Pos} {body : List Stmt} {Q : Flow → Shared → Prop}

theorem forC_range {σ : Type} {r kc : Addr} {a₀ b₀ cs : Int} {t₀ u₀ v₀ : Tok} {n : Nat} {m₀ : Str → Option Value} {E : Value → Shared → Prop} {ok₀ : Obj} {vk : Option Value} (Led : σ → List (Addr × Obj)) (ps : σ → List (Str × Value)) (stored : List Str) (P : Nat → σ → Prop) (c₀ : σ)
    (hh : A.handled = none) (hr : IsRange s.heap r a₀ b₀ cs t₀ u₀ v₀) (hsmall : Builtin.Range.small a₀ b₀ cs = true) (hn : Builtin.Range.rangeSize a₀ b₀ cs = (n : Int))
    (hkf : env.scope.kind = .function) (hx : env.kindOf x = some .cell) (hc : env.cells.lookup x = some kc) (hok : ok₀.data = .cell vk)
    (F : Fr h₀ env.locals s.heap m₀) (N : News h₀ env.locals s.heap ((kc, ok₀) :: Led c₀)) (hne : ∀ p ∈ Led c₀, p.1 ≠ kc) (hk : ∀ p ∈ ps c₀, m₀ p.1 = some p.2) (h0 : P 0 c₀)
    (turn : ∀ (c : σ) (i : Nat) (k : Int) t (u : Str → Option Value) h tk g I oI ok, i < n → k = a₀ + i * cs → P i c → (AllBare s.gens → AllBare g) → (∀ p ∈ Led c, p.1 ≠ I ∧ p.1 ≠ kc) → kc ≠ I → ok.data = .cell (some (.int k t)) →
      Fr h₀ env.locals h (kstB (fun z => if stored.contains z then u z else m₀ z) (ps c)) → News h₀ env.locals h ((kc, ok) :: (I, oI) :: Led c) →
      wpAny (model prog w) A (execs body env) (GPost Q (KEnd h₀ env.locals kc ok I oI s Led ps stored m₀ (P (i + 1)))) (fun _ _ => False) { s with heap := h, toks := tk, gens := g })
    (done : ∀ (c : σ) (u : Str → Option Value) h tk g, P n c → (AllBare s.gens → AllBare g) → Fr h₀ env.locals h (kstB (fun z => if stored.contains z then u z else m₀ z) (ps c)) → News h₀ env.locals h (Led c) →
      Q .next { s with heap := h, toks := tk, gens := g }) :
    wpAny (model prog w) A (pyIter (.ref r)) (fun it s₂ => codeAny (model prog w) A (.forLoop (.Name x px) it body [] env) (fun r s' => match r with | .ok f => Q f s' | .error e => E' e s') s₂) E s := by
  revert prog w A E' s env h₀ x px body Q r kc a₀ b₀ cs t₀ u₀ v₀ n m₀ E ok₀ vk Led ps stored P hh hr hsmall hn hkf hx hc hok F N hne hk h0 turn done
  revert σ c₀
  show ∀ σ c₀ prog w A E' s env h₀ x px body Q r kc a₀ b₀ cs t₀ u₀ v₀ n m₀ E ok₀ vk Led ps stored P hh hr hsmall hn hkf hx hc hok F N hne hk h0 turn done, _
  refine' no_implicit_lambda% (Mine.clS (P := ?P) ((?g : ∀ x0 x1, ?P x0 x1) (Mine.pkS ?P).1 (Mine.pkS ?P).2))
  intros σ c₀
  intro prog w A E' s env h₀ x px body Q r kc a₀ b₀ cs t₀ u₀ v₀ n m₀ E ok₀ vk Led ps stored P
  intros hh hr hsmall hn hkf hx hc hok F N hne hk h0 turn done
  refine wpAny_pyIter_range hr hsmall ?_
  generalize hI : s.heap.objs.size = I
  have hI₀ : h₀.get? I = none := hI ▸ next_is_new F
  have hLI : env.locals ≠ I := hI ▸ Nat.ne_of_lt F.ns.lt
  have W := Walks.range (prog := prog) (w := w) hh I a₀ cs n
  have hkI : kc ≠ I := hI ▸ Nat.ne_of_lt (Heap.lt_size (N _ (.head _)).1)
  refine codeAny_forLoop
    (fun k s' => ∃ (c : σ) (h' : Heap) (tk : Nat) (g : Array GenState) (m' : Str → Option Value) (i : Nat) (ok : Obj) (vk : Option Value), s' = { s with heap := h', toks := tk, gens := g } ∧ (AllBare s.gens → AllBare g) ∧ IsRangeIter h' I (a₀ + (i : Nat) * cs) ((n : Int) - (i : Nat)) cs ∧ Fr h₀ env.locals h' m' ∧ News h₀ env.locals h' ((kc, ok) :: Led c) ∧ ok.data = .cell vk ∧ (∀ p ∈ Led c, p.1 ≠ I ∧ p.1 ≠ kc) ∧
      (∀ p ∈ ps c, m' p.1 = some p.2) ∧ (∀ z, (∀ p ∈ ps c, z ≠ p.1) → stored.contains z = false → m' z = m₀ z) ∧ P i c ∧ i ≤ n ∧ k = n + 1 - i) ?_ (n + 1)
    ⟨c₀, _, s.toks, s.gens, m₀, 0, ok₀, vk, rfl, id, ?_, F.push _, (fun p hp => ⟨Heap.get?_push_of_some _ (N p hp).1, (N p hp).2⟩), hok, (fun p hp => ⟨hI ▸ Nat.ne_of_lt (Heap.lt_size (N p (.tail _ hp)).1), hne p hp⟩), hk, fun _ _ _ => rfl, h0, Nat.zero_le _, rfl⟩
  rotate_left
  · show IsRangeIter _ _ _ _ _
    rw [hn]; subst hI; simpa using Heap.get?_push_size _ rfl
  intro k s' xo1
  obtain ⟨c, h', tk, g, m', i, ok, vk, hr6, hg, hst', F', N', hok', hne', hk', hr', hP, hi, hr7⟩ := (xo1)
  revert c h' tk g m' i ok vk hr6 hg hst' F' N' hok' hne' hk' hr' hP hi hr7
  intro c h' tk g m' i ok vk hr6 hg hst' F' N' hok' hne' hk' hr' hP hi hr7
  obtain rfl := hr6
  obtain rfl := hr7
  have k2 : ∀ {h₁ : Heap}, (∀ b o, b ∉ [I] → h'.get? b = some o → h₁.get? b = some o) → ∀ b o, b ≠ I → h'.get? b = some o → h₁.get? b = some o := fun hk₁ b o hb e => hk₁ b o (by simpa using hb) e
  have next : ∀ h₁ : Heap, (∀ b o, b ∉ [I] → h'.get? b = some o → h₁.get? b = some o) → Fr h₀ env.locals h₁ m' ∧ News h₀ env.locals h₁ ((kc, ok) :: Led c) := fun h₁ hk₁ =>
    ⟨⟨F'.ns.at' fun o e => k2 hk₁ _ o hLI e, fun b o e => k2 hk₁ b o (fun q => by rw [q, hI₀] at e; cases e) (F'.keep b o e), F'.above⟩,
      fun p hp => ⟨k2 hk₁ _ _ (by
        rcases List.mem_cons.mp hp with rfl | hp
        · exact hkI
        · exact (hne' p hp).1) (N' p hp).1, (N' p hp).2⟩⟩
  by_cases hlt : i < n
  · refine W.item i _ _ _ hlt hst' ?_
    intro v h₁ tk₁
    intros hPv
    obtain ⟨t, hr8⟩ := hPv
    revert t hr8
    intro t hr8 hst₁ hk₁
    obtain rfl := hr8
    obtain ⟨F₁, N₁⟩ := next h₁ hk₁
    revert F₁ N₁
    intro F₁ N₁
    have hmk := N₁ _ (.head _)
    refine wpAny_assign_Name (wpAny_storeName_cell hkf hx hc ⟨ok, hmk.1, hok'⟩ ?_)
    intro h₂
    intros hv
    obtain ⟨o', ho', hd'⟩ := hv
    revert o' ho' hd'
    intro o' ho' hd' hs₂
    replace hs₂ : Heap.SameBut kc h₁ h₂ := hs₂
    have F₂ : Fr h₀ env.locals h₂ m' := ⟨F₁.ns.sameBut hs₂ (Ne.symm hmk.2.1), fun b ob e => (hs₂.2 b (fun q => by rw [q, hmk.2.2] at e; cases e)).trans (F₁.keep b ob e), F₁.above⟩
    have hst₂ : IsRangeIter h₂ I (a₀ + ((i + 1 : Nat) : Nat) * cs) ((n : Int) - ((i + 1 : Nat) : Nat)) cs := (hs₂.2 I (Ne.symm hkI)).trans hst₁
    obtain ⟨oI, heI, hoI⟩ : ∃ oI, h₂.get? I = some oI ∧ ∀ h₃ : Heap, h₃.get? I = some oI → IsRangeIter h₃ I (a₀ + ((i + 1 : Nat) : Nat) * cs) ((n : Int) - ((i + 1 : Nat) : Nat)) cs := ⟨_, hst₂, fun _ q => q⟩
    revert oI heI hoI
    intro oI heI hoI
    have N₂ : News h₀ env.locals h₂ ((kc, o') :: (I, oI) :: Led c) := fun p hp => by
      rcases List.mem_cons.mp hp with rfl | hp
      · exact ⟨ho', hmk.2⟩
      · rcases List.mem_cons.mp hp with rfl | hp
        · exact ⟨heI, Ne.symm hLI, hI₀⟩
        · exact ⟨(hs₂.2 _ (hne' p hp).2).trans (N₁ p (.tail _ hp)).1, (N₁ p (.tail _ hp)).2⟩
    refine wpAny_mono (turn c i _ t m' h₂ _ g I oI o' hlt rfl hP hg hne' hkI hd' (ksw_fr hk' hr' F₂) N₂) ?_ fun _ _ e => e.elim
    intro f s₃ h₃
    have fin : KEnd h₀ env.locals kc o' I oI s Led ps stored m₀ (P (i + 1)) s₃ → ∃ k', k' < n + 1 - i ∧ ∃ (c : σ) (h' : Heap) (tk : Nat) (g : Array GenState) (m' : Str → Option Value) (i : Nat) (ok : Obj) (vk : Option Value), s₃ = { s with heap := h', toks := tk, gens := g } ∧ (AllBare s.gens → AllBare g) ∧ IsRangeIter h' I (a₀ + (i : Nat) * cs) ((n : Int) - (i : Nat)) cs ∧ Fr h₀ env.locals h' m' ∧ News h₀ env.locals h' ((kc, ok) :: Led c) ∧ ok.data = .cell vk ∧ (∀ p ∈ Led c, p.1 ≠ I ∧ p.1 ≠ kc) ∧
        (∀ p ∈ ps c, m' p.1 = some p.2) ∧ (∀ z, (∀ p ∈ ps c, z ≠ p.1) → stored.contains z = false → m' z = m₀ z) ∧ P i c ∧ i ≤ n ∧ k' = n + 1 - i := by
      intro xo4
      obtain ⟨c', h₃', tk₃, g₃, m₃, news₃, hr9, hg₃, F₃, N₃, hkm, hl₃, hI₃, hn₃, hk₃, hr₃, hP₃⟩ := (xo4)
      revert c' h₃' tk₃ g₃ m₃ news₃ hr9 hg₃ F₃ N₃ hkm hl₃ hI₃ hn₃ hk₃ hr₃ hP₃
      intro c' h₃' tk₃ g₃ m₃ news₃ hr9 hg₃ F₃ N₃ hkm hl₃ hI₃ hn₃ hk₃ hr₃ hP₃
      obtain rfl := hr9
      exact ⟨n + 1 - (i + 1), by omega, c', h₃', tk₃, g₃, m₃, i + 1, o', _, rfl, hg₃, hoI _ (N₃ _ hI₃).1, F₃, fun p hp => by
        rcases List.mem_cons.mp hp with rfl | hp
        · exact N₃ _ hkm
        · exact N₃ p (hl₃ p hp), hd', hn₃, hk₃, hr₃, hP₃, hlt, rfl⟩
    cases f with
    | ret v => exact h₃
    | brk => exact h₃
    | cont => exact fin h₃
    | next => exact fin h₃
  · have hin : i = n := by omega
    subst hin
    refine W.done _ _ _ hst' fun h₁ tk₁ hk₁ => wpAny_execs_nil ?_
    obtain ⟨F₁, N₁⟩ := next h₁ hk₁
    revert F₁ N₁
    intro F₁ N₁
    exact done c m' h₁ tk₁ g hP hg (ksw_fr hk' hr' F₁) fun p hp => N₁ p (.tail _ hp)
end

section
variable {M : Model} {A : Around} {E : Value → Shared → Prop} {s : Shared} {env : Env}
/-- the frame of a block that has cells of its own -/
theorem newCompEnv {scope : Scope} {cl : List (Str × Addr)} {qual : Str} {Q : Env → Shared → Prop}
    (hQ : ∀ h', h'.Ns s.heap.objs.size (fun _ => none) → (∀ b o, s.heap.get? b = some o → h'.get? b = some o) → (∀ (x : Str) (c : Addr), scope.names.filter (fun y => y.2 == .cell) = [(x, .cell)] → h'.IsCell (s.heap.objs.size + 1) none) →
      (∀ (x : Str), scope.names.filter (fun y => y.2 == .cell) = [(x, .cell)] → cellsFrom (s.heap.objs.size + 1) scope.names cl = (x, s.heap.objs.size + 1) :: cl) →
      Q (newEnv scope s.heap.objs.size env.globals (cellsFrom (s.heap.objs.size + 1) scope.names cl) qual none .none (some env) builtinsNs) { s with heap := h' }) :
    wpAny M A (newFunctionEnv scope env.globals cl [] qual none .none (some env)) Q E s := by
  simp only [newFunctionEnv, Option.isSome_some, if_true]
  refine wpAny_bind (wpAny_alloc ?_)
  refine wpAny_bind (wpAny_layCells _ (fun name kind cells => by cases hkc : kind == NameKind.cell <;> simp [hkc]) _ _ _ _ ?_)
  rw [show ({ s with heap := s.heap.push { cls := .type "dict", data := .dict #[] } } : Shared).heap.objs.size = s.heap.objs.size + 1 from Heap.size_push ..]
  have onecell : ∀ (names : List (Str × NameKind)) (h : Heap) (acc : List (Str × Addr)) (x : Str), names.filter (fun y => y.2 == .cell) = [] → cellsFrom h.objs.size names acc = acc := by
    intros names h acc x
    induction names with
    | nil => intros _; rfl
    | cons a r ih =>
      intros hf
      obtain ⟨nm, k⟩ := a
      rw [List.filter_cons] at hf
      split at hf
      · cases hf
      · rename_i hk
        unfold cellsFrom
        rw [if_neg hk]
        exact ih hf
  have one : ∀ (names : List (Str × NameKind)) (h : Heap) (acc : List (Str × Addr)) (x : Str), names.filter (fun y => y.2 == .cell) = [(x, .cell)] → cellsFrom h.objs.size names acc = (x, h.objs.size) :: acc ∧ (pushCells h names).IsCell h.objs.size none := by
    intros names h acc x
    induction names with
    | nil => intros hf; cases hf
    | cons a r ih =>
      intros hf
      obtain ⟨nm, k⟩ := a
      rw [List.filter_cons] at hf
      split at hf
      · rename_i hk
        injection hf with h1 h2
        injection h1 with h3 h4
        unfold cellsFrom pushCells
        rw [if_pos hk, if_pos hk, h3]
        refine ⟨?_, ?_⟩
        · have := onecell r (h.push { cls := .type "cell", data := .cell none }) ((x, h.objs.size) :: acc) x h2
          rw [Heap.size_push] at this
          exact this
        · exact ⟨_, pushCells_keeps r _ _ _ (Heap.get?_push_size _ rfl), rfl⟩
      · rename_i hk
        unfold cellsFrom pushCells
        rw [if_neg hk, if_neg hk]
        exact ih hf
  simp only [List.forIn_nil]
  refine wpAny_bind (wpAny_pure (wpAny_pure (hQ _ ((Heap.Ns.new s.heap (.type "dict")).keeps (pushCells_keeps _ _)) (fun b o e => pushCells_keeps _ _ b o (Heap.get?_push_of_some _ e)) (fun x c hf => ?_) (fun x hf => ?_))))
  · have := (one scope.names (s.heap.push { cls := .type "dict", data := .dict #[] }) cl x hf).2
    rw [Heap.size_push] at this
    exact this
  · have := (one scope.names (s.heap.push { cls := .type "dict", data := .dict #[] }) cl x hf).1
    rw [Heap.size_push] at this
    exact this
end
end Mine
end

section
theorem Mine.top_off_CT : True := by
  w_top off
  trivial
local macro_rules | `(tactic| omega) => `(tactic| first | lia | omega (config := {}))
open PySem PySem.W PyProof.Rows PySem.Spec PySem.Calls
namespace Mine
open PyProof.Rows.LCg (lst lst_snoc NsObj ns_obj fr_but news_but)

theorem turn_two0 (elt t0 i0 t1 i1 : Expr) (ifs : List Expr) (scope : Scope) (pos : Pos) (it acc : Value) (env : Env) :
    compTurn (.ListComp elt [⟨t0, i0, [], 0⟩, ⟨t1, i1, ifs, 0⟩] scope pos) 0 it acc env = (standAt i0.pos >>= fun _ => pyNext it >>= fun r => match r with
      | none => pure (.done .next)
      | some v => letOwnedTupleGo t0 it v >>= fun _ => assign t0 env v >>= fun _ => eval i1 env >>= fun x => standAt i1.pos >>= fun _ => foldedSetIterable i1 env x >>= fun x =>
          holding [x] (pyIter x) >>= fun it' => runOwn (.compStart (.ListComp elt [⟨t0, i0, [], 0⟩, ⟨t1, i1, ifs, 0⟩] scope pos) 1 it' acc env) env >>= fun _ =>
          again (.compLoop (.ListComp elt [⟨t0, i0, [], 0⟩, ⟨t1, i1, ifs, 0⟩] scope pos) 0 it acc env)) := by rfl

theorem turn_two1 (elt t0 i0 t1 i1 : Expr) (ifs : List Expr) (scope : Scope) (pos : Pos) (it acc : Value) (env : Env) :
    compTurn (.ListComp elt [⟨t0, i0, [], 0⟩, ⟨t1, i1, ifs, 0⟩] scope pos) 1 it acc env = (do
      standAt i1.pos
      match ← pyNext it with
      | none => pure (.done .next)
      | some v =>
        letOwnedTupleGo t1 it v
        assign t1 env v
        let mut ok := true
        for c in ifs do
          if ok then ok ← isTrue c env (eval c env)
        if ok then
          (do let _ ← call (.builtin "list.append") [acc, ← eval elt env])
        again (.compLoop (.ListComp elt [⟨t0, i0, [], 0⟩, ⟨t1, i1, ifs, 0⟩] scope pos) 1 it acc env)) := by rfl

section
variable {prog : Program} {w : World} {A : Around} {E : Value → Shared → Prop} {R : Result → Shared → Prop} {s : Shared}

theorem loop_two0 {elt t0 i0 t1 i1 : Expr} {ifs : List Expr} {scope : Scope} {pos : Pos} {it acc : Value} {env : Env} (I : Nat → Shared → Prop)
    (turn : ∀ n s, I n s → wpAny (model prog w) A (pyNext it) (fun r s₁ => match r with
      | none => R (.ok .next) s₁
      | some v => wpAny (model prog w) A (assign t0 env v) (fun _ s₂ => wpAny (model prog w) A (eval i1 env) (fun x s₃ => wpAny (model prog w) A (pyIter x) (fun it' s₄ =>
          codeAny (model prog w) A (.compStart (.ListComp elt [⟨t0, i0, [], 0⟩, ⟨t1, i1, ifs, 0⟩] scope pos) 1 it' acc env) (fun r s₅ => r = .ok .next ∧ ∃ m, m < n ∧ I m s₅) s₄) (fun _ _ => False) s₃) (fun _ _ => False) s₂) (fun _ _ => False) s₁) (fun _ _ => False) s)
    (n : Nat) (h : I n s) (ht : ∀ v, letOwnedTupleGo t0 it v = pure () := by intros _; rfl) (hs : ∀ x, foldedSetIterable i1 env x = pure x := by intros _; rfl) :
    codeAny (model prog w) A (.compLoop (.ListComp elt [⟨t0, i0, [], 0⟩, ⟨t1, i1, ifs, 0⟩] scope pos) 0 it acc env) R s := by
  refine codeAny_loop rfl I (fun n s hI => ?_) n h
  show wpAny _ A ((compTurn (.ListComp elt [⟨t0, i0, [], 0⟩, ⟨t1, i1, ifs, 0⟩] scope pos) 0 it acc env).onRaise (fun x => do noteFrame x env; theTreesLotGoes x)) _ _ s
  refine wpAny_noted ?_
  rw [turn_two0]
  refine wpAny_bind (wpAny_standAt (wpAny_bind (wpAny_mono (turn n s hI) (fun r s₁ h₁ => ?_) fun _ _ h' => h'.elim)))
  cases r with
  | none => exact wpAny_pure h₁
  | some v =>
    refine wpAny_bind (wpAny_of_eq (ht v) ?_)
    refine wpAny_bind (wpAny_mono h₁ (fun _ s₂ h₂ => wpAny_bind (wpAny_mono h₂ (fun x s₃ h₃ => wpAny_bind (wpAny_standAt (wpAny_bind (wpAny_of_eq (hs x) ?_)))) fun _ _ h' => h'.elim)) fun _ _ h' => h'.elim)
    refine wpAny_bind (wpAny_holding (wpAny_mono h₃ (fun it' s₄ h₄ => ?_) fun _ _ h' => h'.elim))
    refine wpAny_bind (wpAny_runOwn (codeAny_mono h₄ fun r s₅ hr => ?_))
    obtain ⟨rfl, hm⟩ := hr
    exact wpAny_pure ⟨rfl, hm⟩

theorem loop_two1 {elt t0 i0 t1 i1 : Expr} {ifs : List Expr} {scope : Scope} {pos : Pos} {it acc : Value} {env : Env} (I : Nat → Shared → Prop)
    (turn : ∀ n s, I n s → wpAny (model prog w) A (pyNext it) (fun r s₁ => match r with
      | none => R (.ok .next) s₁
      | some v => wpAny (model prog w) A (assign t1 env v) (fun _ s₂ => wpAny (model prog w) A (tests env ifs) (fun ok s₃ =>
            if ok = true then wpAny (model prog w) A (eval elt env) (fun x s₄ =>
              wpAny (model prog w) A (call (.builtin "list.append") [acc, x]) (fun _ s₅ => ∃ m, m < n ∧ I m s₅) (fun _ _ => False) s₄) (fun _ _ => False) s₃
            else ∃ m, m < n ∧ I m s₃) (fun _ _ => False) s₂) (fun _ _ => False) s₁) (fun _ _ => False) s)
    (n : Nat) (h : I n s) (ht : ∀ v, letOwnedTupleGo t1 it v = pure () := by intros _; rfl) :
    codeAny (model prog w) A (.compLoop (.ListComp elt [⟨t0, i0, [], 0⟩, ⟨t1, i1, ifs, 0⟩] scope pos) 1 it acc env) R s := by
  refine codeAny_loop rfl I (fun n s hI => ?_) n h
  show wpAny _ A ((compTurn (.ListComp elt [⟨t0, i0, [], 0⟩, ⟨t1, i1, ifs, 0⟩] scope pos) 1 it acc env).onRaise (fun x => do noteFrame x env; theTreesLotGoes x)) _ _ s
  refine wpAny_noted ?_
  rw [turn_two1]
  refine wpAny_bind (wpAny_standAt (wpAny_bind (wpAny_mono (turn n s hI) (fun r s₁ h₁ => ?_) fun _ _ h' => h'.elim)))
  cases r with
  | none => exact wpAny_pure h₁
  | some v =>
    refine wpAny_bind (wpAny_of_eq (ht v) ?_)
    refine wpAny_bind (wpAny_mono h₁ (fun _ s₂ h₂ => wpAny_bind (wpAny_mono h₂ (fun ok s₃ h₃ => ?_) fun _ _ h' => h'.elim)) fun _ _ h' => h'.elim)
    cases ok with
    | false => exact wpAny_pure ⟨rfl, h₃⟩
    | true =>
      exact wpAny_bind (wpAny_bind (wpAny_mono h₃ (fun x s₄ h₄ => wpAny_bind (wpAny_mono h₄ (fun _ s₅ h₅ => wpAny_pure (wpAny_pure ⟨rfl, h₅⟩)) fun _ _ h' => h'.elim)) fun _ _ h' => h'.elim))

theorem start_two {elt t0 i0 t1 i1 : Expr} {ifs : List Expr} {scope : Scope} {pos : Pos} {d : Nat} {it acc : Value} {env : Env} (hd : d = 0 ∨ d = 1)
    (h0 : codeAny (model prog w) A (.compLoop (.ListComp elt [⟨t0, i0, [], 0⟩, ⟨t1, i1, ifs, 0⟩] scope pos) d it acc env) R s)
    (h : wpAny (model prog w) A (pyIter it) (fun it' s' => codeAny (model prog w) A (.compLoop (.ListComp elt [⟨t0, i0, [], 0⟩, ⟨t1, i1, ifs, 0⟩] scope pos) d it' acc env) R s') (fun _ _ => False) s) :
    codeAny (model prog w) A (.compStart (.ListComp elt [⟨t0, i0, [], 0⟩, ⟨t1, i1, ifs, 0⟩] scope pos) d it acc env) R s := by
  refine codeAny_of_tree ?_
  rcases hd with rfl | rfl
  · show wpAny _ _ ((compStart (.ListComp elt [⟨t0, i0, [], 0⟩, ⟨t1, i1, ifs, 0⟩] scope pos) 0 it acc env).onRaise (fun x => do noteFrame x env; standAt theWindowsPlace)) _ _ s
    refine wpAny_notedAt ?_
    unfold compStart
    show wpAny _ _ (ask >>= _) _ _ s
    refine wpAny_bind (wpAny_askSetting (wpAny_ite ?_))
    split
    · first
        | exact wpAny_bind (wpAny_pure (wpAny_pure (And.intro rfl h0)))
        | exact wpAny_pure (And.intro rfl h0)
    · refine wpAny_bind (wpAny_rule ?_)
      show wpAny _ _ (standAt i0.pos >>= _) _ _ s
      exact wpAny_bind (wpAny_standAt (wpAny_bind (wpAny_mono h (fun it' s' h' => wpAny_pure (And.intro rfl h')) fun _ _ x => x.elim)))
  · show wpAny _ _ ((compStart (.ListComp elt [⟨t0, i0, [], 0⟩, ⟨t1, i1, ifs, 0⟩] scope pos) 1 it acc env).onRaise (fun x => do noteFrame x env; standAt theWindowsPlace)) _ _ s
    refine wpAny_notedAt ?_
    unfold compStart
    show wpAny _ _ (ask >>= _) _ _ s
    refine wpAny_bind (wpAny_askSetting (wpAny_ite ?_))
    split
    · first
        | exact wpAny_bind (wpAny_pure (wpAny_pure (And.intro rfl h0)))
        | exact wpAny_pure (And.intro rfl h0)
    · refine wpAny_bind (wpAny_rule ?_)
      show wpAny _ _ (standAt i1.pos >>= _) _ _ s
      exact wpAny_bind (wpAny_standAt (wpAny_bind (wpAny_mono h (fun it' s' h' => wpAny_pure (And.intro rfl h')) fun _ _ x => x.elim)))
end
end Mine
end

section
theorem Mine.top_off_C3 : True := by
  w_top off
  trivial
local macro_rules | `(tactic| omega) => `(tactic| first | lia | omega (config := {}))
open PySem PySem.W PyProof.Rows PySem.Spec PySem.Calls
namespace Mine
open PyProof.Rows.LCg (lst lst_snoc NsObj ns_obj fr_but news_but)

/-- the end of an inner turn -/
noncomputable def REnd {σ : Type} (h₀ : Heap) (C : Addr) (m : Str → Option Value) (s : Shared) (own : List (Addr × Obj)) (Led : σ → List (Addr × Obj)) (P : σ → List Value → Prop) (ys : List Value) (s₂ : Shared) : Prop :=
  ∃ (c : σ) (h' : Heap) (tk : Nat) (g : Array GenState) (news' : List (Addr × Obj)), s₂ = { s with heap := h', toks := tk, gens := g } ∧ (AllBare s.gens → AllBare g) ∧ Fr h₀ C h' m ∧ News h₀ C h' news' ∧
    (∀ p ∈ own, p ∈ news') ∧ (∀ p ∈ Led c, p ∈ news') ∧ (∀ p ∈ Led c, ∀ q ∈ own, p.1 ≠ q.1) ∧ P c ys
theorem r_end {σ : Type} {h₀ : Heap} {C : Addr} {m : Str → Option Value} {s : Shared} {own : List (Addr × Obj)} {Led : σ → List (Addr × Obj)} {P : σ → List Value → Prop} {ys : List Value} {h' : Heap} {tk : Nat} {g : Array GenState} {news' : List (Addr × Obj)} (c : σ)
    (F : Fr h₀ C h' m) (N : News h₀ C h' news') (hg : AllBare s.gens → AllBare g) (ho : ∀ p ∈ own, p ∈ news') (hl : ∀ p ∈ Led c, p ∈ news') (hn : ∀ p ∈ Led c, ∀ q ∈ own, p.1 ≠ q.1) (hp : P c ys) :
    REnd h₀ C m s own Led P ys { s with heap := h', toks := tk, gens := g } := ⟨c, h', tk, g, news', rfl, hg, F, N, ho, hl, hn, hp⟩

/-- the end of an outer turn -/
noncomputable def OEnd {σ : Type} (h₀ : Heap) (C D kc : Addr) (s : Shared) (fix : List (Addr × Obj)) (Led : σ → List (Addr × Obj)) (P : σ → List Value → Prop) (s₂ : Shared) : Prop :=
  ∃ (c : σ) (ys : List Value) (h' : Heap) (tk : Nat) (g : Array GenState) (ok : Obj) (vk : Option Value) (m' : Str → Option Value), s₂ = { s with heap := h', toks := tk, gens := g } ∧ (AllBare s.gens → AllBare g) ∧ Fr h₀ C h' m' ∧
    News h₀ C h' ((D, lst ys) :: (kc, ok) :: fix ++ Led c) ∧ (∀ p ∈ Led c, p.1 ≠ D ∧ p.1 ≠ kc ∧ ∀ q ∈ fix, p.1 ≠ q.1) ∧ ok.data = .cell vk ∧ P c ys

section
variable {prog : Program} {w : World} {A : Around} {E : Value → Shared → Prop} {env : Env} {h₀ : Heap} {L C D kc : Addr} {m : Str → Option Value}

theorem inner_range {σ : Type} {elt t0 i0 i1 : Expr} {x : Str} {px : Pos} {ifs : List Expr} {scope : Scope} {cl : List (Str × Addr)} {pos : Pos} {R : Result → Shared → Prop} {s : Shared}
    {r : Addr} {a₀ b₀ cs : Int} {t₀ u₀ v₀ : Tok} {n : Nat} {ok₀ : Obj} {vk₀ : Option Value} {ys₀ : List Value} (fix : List (Addr × Obj)) (Led : σ → List (Addr × Obj)) (P : Nat → σ → List Value → Prop) (c₀ : σ)
    (hh : A.handled = none) (hr : IsRange s.heap r a₀ b₀ cs t₀ u₀ v₀) (hsmall : Builtin.Range.small a₀ b₀ cs = true) (hn : Builtin.Range.rangeSize a₀ b₀ cs = (n : Int)) (hlen : ∀ j c ys, P j c ys → ys.length ≤ 1000)
    (hkf : (compEnvC scope cl C env).scope.kind = .function) (hx : (compEnvC scope cl C env).kindOf x = some .cell) (hc : cl.lookup x = some kc) (hok : ok₀.data = .cell vk₀)
    (hDk : D ≠ kc) (hfix : ∀ q ∈ fix, q.1 ≠ D ∧ q.1 ≠ kc)
    (F : Fr h₀ C s.heap m) (N : News h₀ C s.heap ((D, lst ys₀) :: (kc, ok₀) :: fix ++ Led c₀)) (hne : ∀ p ∈ Led c₀, p.1 ≠ D ∧ p.1 ≠ kc ∧ ∀ q ∈ fix, p.1 ≠ q.1) (h0 : P 0 c₀ ys₀)
    (turn : ∀ (c : σ) (j : Nat) (k : Int) t ys h tk g I2 oI2 ok, j < n → k = a₀ + j * cs → P j c ys → (AllBare s.gens → AllBare g) → (∀ p ∈ Led c, ∀ q ∈ (D, lst ys) :: (kc, ok) :: (I2, oI2) :: fix, p.1 ≠ q.1) → ok.data = .cell (some (.int k t)) →
      Fr h₀ C h m → News h₀ C h ((D, lst ys) :: (kc, ok) :: (I2, oI2) :: fix ++ Led c) →
      wpAny (model prog w) A (tests (compEnvC scope cl C env) ifs) (fun b s₃ =>
        if b = true then wpAny (model prog w) A (eval elt (compEnvC scope cl C env)) (fun y s₄ => REnd h₀ C m s ((D, lst ys) :: (kc, ok) :: (I2, oI2) :: fix) Led (P (j + 1)) (ys ++ [y]) s₄) (fun _ _ => False) s₃
        else REnd h₀ C m s ((D, lst ys) :: (kc, ok) :: (I2, oI2) :: fix) Led (P (j + 1)) ys s₃) (fun _ _ => False) { s with heap := h, toks := tk, gens := g })
    (done : ∀ (c : σ) ys h tk g ok vk, P n c ys → (AllBare s.gens → AllBare g) → Fr h₀ C h m → News h₀ C h ((D, lst ys) :: (kc, ok) :: fix ++ Led c) → (∀ p ∈ Led c, p.1 ≠ D ∧ p.1 ≠ kc ∧ ∀ q ∈ fix, p.1 ≠ q.1) → ok.data = .cell vk →
      R (.ok .next) { s with heap := h, toks := tk, gens := g }) :
    wpAny (model prog w) A (pyIter (.ref r)) (fun it' s₄ => codeAny (model prog w) A (.compStart (.ListComp elt [⟨t0, i0, [], 0⟩, ⟨.Name x px, i1, ifs, 0⟩] scope pos) 1 it' (.ref D) (compEnvC scope cl C env)) R s₄) (fun _ _ => False) s := by
  revert prog w A env h₀ C D kc m elt t0 i0 i1 x px ifs scope cl pos R s r a₀ b₀ cs t₀ u₀ v₀ n ok₀ vk₀ ys₀ fix Led P hh hr hsmall hn hlen hkf hx hc hok hDk hfix F N hne h0 turn done
  revert σ c₀
  show ∀ σ c₀ prog w A env h₀ C D kc m elt t0 i0 i1 x px ifs scope cl pos R s r a₀ b₀ cs t₀ u₀ v₀ n ok₀ vk₀ ys₀ fix Led P hh hr hsmall hn hlen hkf hx hc hok hDk hfix F N hne h0 turn done, _
  refine' no_implicit_lambda% (Mine.clS (P := ?P) ((?g : ∀ x0 x1, ?P x0 x1) (Mine.pkS ?P).1 (Mine.pkS ?P).2))
  intros σ c₀
  intro prog w A env h₀ C D kc m elt t0 i0 i1 x px ifs scope cl pos R s r a₀ b₀ cs t₀ u₀ v₀ n ok₀ vk₀ ys₀ fix Led P
  intros hh hr hsmall hn hlen hkf hx hc hok hDk hfix F N hne h0 turn done
  refine wpAny_pyIter_range hr hsmall ?_
  generalize hI : s.heap.objs.size = I
  have hI₀ : h₀.get? I = none := hI ▸ next_is_new F
  have hCI : C ≠ I := hI ▸ Nat.ne_of_lt F.ns.lt
  have hNI : ∀ p ∈ (D, lst ys₀) :: (kc, ok₀) :: fix ++ Led c₀, p.1 ≠ I := fun p hp => hI ▸ Nat.ne_of_lt (Heap.lt_size (N p hp).1)
  have hDI : D ≠ I := hNI _ (.head _)
  have hkI : kc ≠ I := hNI _ (.tail _ (.head _))
  have hfI : ∀ q ∈ fix, q.1 ≠ I := fun q hq => hNI q (.tail _ (.tail _ (List.mem_append_left _ hq)))
  have hkC : kc ≠ C := (N _ (.tail _ (.head _))).2.1
  have hDC : D ≠ C := (N _ (.head _)).2.1
  have hD₀ : h₀.get? D = none := (N _ (.head _)).2.2
  have hk₀ : h₀.get? kc = none := (N _ (.tail _ (.head _))).2.2
  have W := Walks.range (prog := prog) (w := w) hh I a₀ cs n
  have loop : ∀ s₃, (fun k s' => ∃ (c : σ) (ys : List Value) (h' : Heap) (tk : Nat) (g : Array GenState) (j : Nat) (ok : Obj) (vk : Option Value), s' = { s with heap := h', toks := tk, gens := g } ∧ (AllBare s.gens → AllBare g) ∧ IsRangeIter h' I (a₀ + (j : Nat) * cs) ((n : Int) - (j : Nat)) cs ∧ Fr h₀ C h' m ∧
      News h₀ C h' ((D, lst ys) :: (kc, ok) :: fix ++ Led c) ∧ ok.data = .cell vk ∧ (∀ p ∈ Led c, p.1 ≠ I ∧ p.1 ≠ D ∧ p.1 ≠ kc ∧ ∀ q ∈ fix, p.1 ≠ q.1) ∧ P j c ys ∧ j ≤ n ∧ k = n + 1 - j : Nat → Shared → Prop) (n + 1) s₃ → codeAny (model prog w) A (.compLoop (.ListComp elt [⟨t0, i0, [], 0⟩, ⟨.Name x px, i1, ifs, 0⟩] scope pos) 1 (.ref I) (.ref D) (compEnvC scope cl C env)) R s₃ := by
    intro s₃ h₃
    refine loop_two1 (fun k s' => ∃ (c : σ) (ys : List Value) (h' : Heap) (tk : Nat) (g : Array GenState) (j : Nat) (ok : Obj) (vk : Option Value), s' = { s with heap := h', toks := tk, gens := g } ∧ (AllBare s.gens → AllBare g) ∧ IsRangeIter h' I (a₀ + (j : Nat) * cs) ((n : Int) - (j : Nat)) cs ∧ Fr h₀ C h' m ∧
      News h₀ C h' ((D, lst ys) :: (kc, ok) :: fix ++ Led c) ∧ ok.data = .cell vk ∧ (∀ p ∈ Led c, p.1 ≠ I ∧ p.1 ≠ D ∧ p.1 ≠ kc ∧ ∀ q ∈ fix, p.1 ≠ q.1) ∧ P j c ys ∧ j ≤ n ∧ k = n + 1 - j : Nat → Shared → Prop) ?_ (n + 1) h₃
    intro k s' xo1
    obtain ⟨c, ys, h', tk, g, j, ok, vk, hr6, hg, hst', F', N', hok', hne', hP, hj, hr7⟩ := (xo1)
    revert c ys h' tk g j ok vk hr6 hg hst' F' N' hok' hne' hP hj hr7
    intro c ys h' tk g j ok vk hr6 hg hst' F' N' hok' hne' hP hj hr7
    obtain rfl := hr6
    obtain rfl := hr7
    by_cases hlt : j < n
    · refine W.item j _ _ _ hlt hst' ?_
      intro v h₁ tk₁
      intros hPv
      obtain ⟨t, hr8⟩ := hPv
      revert t hr8
      intro t hr8 hst₁ hk₁
      obtain rfl := hr8
      have k1 : ∀ b o, b ≠ I → h'.get? b = some o → h₁.get? b = some o := fun b o hb e => hk₁ b o (by simpa using hb) e
      have hmk := N' _ (.tail _ (.head _))
      refine wpAny_assign_Name (wpAny_storeName_cell hkf hx hc ⟨ok, k1 _ _ hkI hmk.1, hok'⟩ ?_)
      intro h₂
      intros hv
      obtain ⟨o', ho', hd'⟩ := hv
      revert o' ho' hd'
      intro o' ho' hd' hs₂
      replace hs₂ : Heap.SameBut kc h₁ h₂ := hs₂
      have k2 : ∀ b o, b ≠ I → b ≠ kc → h'.get? b = some o → h₂.get? b = some o := fun b o hb hb2 e => (hs₂.2 b hb2).trans (k1 b o hb e)
      have F₂ : Fr h₀ C h₂ m := ⟨F'.ns.at' fun o e => k2 _ o hCI (Ne.symm hkC) e, fun b o e => k2 b o (fun q => by rw [q, hI₀] at e; cases e) (fun q => by rw [q, hk₀] at e; cases e) (F'.keep b o e), F'.above⟩
      have hst₂ : IsRangeIter h₂ I (a₀ + ((j + 1 : Nat) : Nat) * cs) ((n : Int) - ((j + 1 : Nat) : Nat)) cs := (hs₂.2 I (Ne.symm hkI)).trans hst₁
      obtain ⟨oI, heI, hoI⟩ : ∃ oI, h₂.get? I = some oI ∧ ∀ h₃ : Heap, h₃.get? I = some oI → IsRangeIter h₃ I (a₀ + ((j + 1 : Nat) : Nat) * cs) ((n : Int) - ((j + 1 : Nat) : Nat)) cs := ⟨_, hst₂, fun _ q => q⟩
      revert oI heI hoI
      intro oI heI hoI
      have N₂ : News h₀ C h₂ ((D, lst ys) :: (kc, o') :: (I, oI) :: fix ++ Led c) := fun p hp => by
        rcases List.mem_cons.mp hp with rfl | hp
        · have z := N' _ (.head _)
          exact ⟨k2 _ _ hDI hDk z.1, z.2⟩
        · rcases List.mem_cons.mp hp with rfl | hp
          · exact ⟨ho', hmk.2⟩
          · rcases List.mem_cons.mp hp with rfl | hp
            · exact ⟨heI, Ne.symm hCI, hI₀⟩
            · have z := N' p (.tail _ (.tail _ hp))
              rcases List.mem_append.mp hp with hp | hp
              · exact ⟨k2 _ _ (hfI p hp) (hfix p hp).2 z.1, z.2⟩
              · exact ⟨k2 _ _ (hne' p hp).1 (hne' p hp).2.2.1 z.1, z.2⟩
      have ap : ∀ p ∈ Led c, ∀ q ∈ (D, lst ys) :: (kc, o') :: (I, oI) :: fix, p.1 ≠ q.1 := fun p hp q hq => by
        have z := hne' p hp
        rcases List.mem_cons.mp hq with rfl | hq
        · exact z.2.1
        · rcases List.mem_cons.mp hq with rfl | hq
          · exact z.2.2.1
          · rcases List.mem_cons.mp hq with rfl | hq
            · exact z.1
            · exact z.2.2.2 q hq
      have fin : ∀ ys' s₄, REnd h₀ C m s ((D, lst ys) :: (kc, o') :: (I, oI) :: fix) Led (P (j + 1)) ys' s₄ →
          ∃ (c : σ) (h' : Heap) (tk : Nat) (g : Array GenState), s₄ = { s with heap := h', toks := tk, gens := g } ∧ (AllBare s.gens → AllBare g) ∧ IsRangeIter h' I (a₀ + ((j + 1 : Nat) : Nat) * cs) ((n : Int) - ((j + 1 : Nat) : Nat)) cs ∧ Fr h₀ C h' m ∧
            News h₀ C h' ((D, lst ys) :: (kc, o') :: fix ++ Led c) ∧ (∀ p ∈ Led c, p.1 ≠ I ∧ p.1 ≠ D ∧ p.1 ≠ kc ∧ ∀ q ∈ fix, p.1 ≠ q.1) ∧ P (j + 1) c ys' := by
        intro ys' s₄ xo4
        obtain ⟨c', h₄, tk₄, g₄, news₄, hr9, hg₄, F₄, N₄, ho₄, hl₄, hn₄, hP₄⟩ := (xo4)
        revert c' h₄ tk₄ g₄ news₄ hr9 hg₄ F₄ N₄ ho₄ hl₄ hn₄ hP₄
        intro c' h₄ tk₄ g₄ news₄ hr9 hg₄ F₄ N₄ ho₄ hl₄ hn₄ hP₄
        obtain rfl := hr9
        refine ⟨c', h₄, tk₄, g₄, rfl, hg₄, hoI _ (N₄ _ (ho₄ _ (.tail _ (.tail _ (.head _))))).1, F₄, fun p hp => ?_, fun p hp => ⟨hn₄ p hp _ (.tail _ (.tail _ (.head _))), hn₄ p hp _ (.head _), hn₄ p hp _ (.tail _ (.head _)), fun q hq => hn₄ p hp q (.tail _ (.tail _ (.tail _ hq)))⟩, hP₄⟩
        rcases List.mem_cons.mp hp with rfl | hp
        · exact N₄ _ (ho₄ _ (.head _))
        · rcases List.mem_cons.mp hp with rfl | hp
          · exact N₄ _ (ho₄ _ (.tail _ (.head _)))
          · rcases List.mem_append.mp hp with hp | hp
            · exact N₄ _ (ho₄ _ (.tail _ (.tail _ (.tail _ hp))))
            · exact N₄ _ (hl₄ _ hp)
      refine wpAny_mono (turn c j _ t ys h₂ _ g I oI o' hlt rfl hP hg ap hd' F₂ N₂) ?_ fun _ _ q => q.elim
      intro b s₃ hq
      cases b with
      | false =>
        simp only [Bool.false_eq_true, if_false] at hq ⊢
        obtain ⟨c', h₄, tk₄, g₄, hr10, hg₄, st₄, F₄, N₄, ap₄, P₄⟩ := fin ys s₃ hq
        revert c' h₄ tk₄ g₄ hr10 hg₄ st₄ F₄ N₄ ap₄ P₄
        intro c' h₄ tk₄ g₄ hr10 hg₄ st₄ F₄ N₄ ap₄ P₄
        obtain rfl := hr10
        exact ⟨n + 1 - (j + 1), by omega, c', ys, h₄, tk₄, g₄, j + 1, o', _, rfl, hg₄, st₄, F₄, N₄, hd', ap₄, P₄, hlt, rfl⟩
      | true =>
        simp only [if_true] at hq ⊢
        refine wpAny_mono hq ?_ fun _ _ q => q.elim
        intro y s₄ hq₄
        obtain ⟨c', h₄, tk₄, g₄, hr11, hg₄, st₄, F₄, N₄, ap₄, P₄⟩ := fin (ys ++ [y]) s₄ hq₄
        revert c' h₄ tk₄ g₄ hr11 hg₄ st₄ F₄ N₄ ap₄ P₄
        intro c' h₄ tk₄ g₄ hr11 hg₄ st₄ F₄ N₄ ap₄ P₄
        obtain rfl := hr11
        have hl5 := hlen _ _ _ P₄
        rw [List.length_append, List.length_singleton] at hl5
        refine append_at (hsz := by show ys.toArray.size ≤ sizeLine; rw [List.size_toArray, sizeLine_eq]; omega) (N₄ _ (.head _)).1 fun h₅ hs₅ hD₅ => ?_
        have k5 : ∀ b o, b ≠ D → h₄.get? b = some o → h₅.get? b = some o := fun b o hb e => (hs₅.2 b hb).trans e
        refine ⟨n + 1 - (j + 1), by omega, c', ys ++ [y], h₅, tk₄, g₄, j + 1, o', _, rfl, hg₄, k5 _ _ (Ne.symm hDI) st₄, ⟨F₄.ns.at' fun o e => k5 _ o (Ne.symm hDC) e, fun b o e => k5 b o (fun q => by rw [q, hD₀] at e; cases e) (F₄.keep b o e), F₄.above⟩, fun p hp => ?_, hd', ap₄, P₄, hlt, rfl⟩
        rcases List.mem_cons.mp hp with rfl | hp
        · exact ⟨hD₅.trans (congrArg some (lst_snoc ys y)), hDC, hD₀⟩
        · have z := N₄ p (.tail _ hp)
          refine ⟨k5 _ _ ?_ z.1, z.2⟩
          rcases List.mem_cons.mp hp with rfl | hp
          · exact Ne.symm hDk
          · rcases List.mem_append.mp hp with hp | hp
            · exact (hfix p hp).1
            · exact (ap₄ p hp).2.1
    · have hin : j = n := by omega
      subst hin
      refine W.done _ _ _ hst' ?_
      intro h₁ tk₁ hk₁
      have k1 : ∀ b o, b ≠ I → h'.get? b = some o → h₁.get? b = some o := fun b o hb e => hk₁ b o (by simpa using hb) e
      refine done c ys h₁ tk₁ g ok vk hP hg ⟨F'.ns.at' fun o e => k1 _ o hCI e, fun b o e => k1 b o (fun q => by rw [q, hI₀] at e; cases e) (F'.keep b o e), F'.above⟩ (fun p hp => ⟨k1 _ _ ?_ (N' p hp).1, (N' p hp).2⟩) (fun p hp => (hne' p hp).2) hok'
      rcases List.mem_cons.mp hp with rfl | hp
      · exact hDI
      · rcases List.mem_cons.mp hp with rfl | hp
        · exact hkI
        · rcases List.mem_append.mp hp with hp | hp
          · exact hfI p hp
          · exact (hne' p hp).1
  have st0 : (fun k s' => ∃ (c : σ) (ys : List Value) (h' : Heap) (tk : Nat) (g : Array GenState) (j : Nat) (ok : Obj) (vk : Option Value), s' = { s with heap := h', toks := tk, gens := g } ∧ (AllBare s.gens → AllBare g) ∧ IsRangeIter h' I (a₀ + (j : Nat) * cs) ((n : Int) - (j : Nat)) cs ∧ Fr h₀ C h' m ∧
      News h₀ C h' ((D, lst ys) :: (kc, ok) :: fix ++ Led c) ∧ ok.data = .cell vk ∧ (∀ p ∈ Led c, p.1 ≠ I ∧ p.1 ≠ D ∧ p.1 ≠ kc ∧ ∀ q ∈ fix, p.1 ≠ q.1) ∧ P j c ys ∧ j ≤ n ∧ k = n + 1 - j : Nat → Shared → Prop) (n + 1) { s with heap := s.heap.push { cls := .type "range_iterator", data := .fields #[rawInt a₀, rawInt (Builtin.Range.rangeSize a₀ b₀ cs), rawInt cs] } } := by
    refine ⟨c₀, ys₀, _, s.toks, s.gens, 0, ok₀, vk₀, rfl, id, ?_, F.push _, (fun p hp => ⟨Heap.get?_push_of_some _ (N p hp).1, (N p hp).2⟩), hok, (fun p hp => ⟨hNI p (.tail _ (.tail _ (List.mem_append_right _ hp))), hne p hp⟩), h0, Nat.zero_le _, rfl⟩
    show IsRangeIter _ _ _ _ _
    rw [hn]; subst hI; simpa using Heap.get?_push_size _ rfl
  refine start_two (.inr rfl) (loop _ st0) ?_
  obtain ⟨c, ys, h', tk, g, j, ok, vk, e1, xu12, hst', xu13⟩ := id st0
  revert c ys h' tk g j ok vk e1 xu12 hst' xu13
  intro c ys h' tk g j ok vk e1 xu12 hst' xu13
  refine W.self 0 _ _ _ ?_ (loop _ st0)
  show IsRangeIter _ _ _ _ _
  rw [hn]; subst hI; simpa using Heap.get?_push_size _ rfl

noncomputable def Blk2 (prog : Program) (w : World) (A : Around) (E : Value → Shared → Prop) (env : Env) (elt t0 i0 t1 i1 : Expr) (ifs : List Expr) (scope : Scope) (cl : List (Str × Addr)) (pos : Pos)
    (use : Option (Value → Sem Unit)) (Q : Value → Shared → Prop) (it : Value) (s₂ : Shared) : Prop :=
  wpAny (model prog w) A (newList []) (fun acc s₃ => wpAny (model prog w) A (newFunctionEnv scope env.globals cl [] env.qual none .none (some env)) (fun cenv s₄ =>
    codeAny (model prog w) A (.compStart (.ListComp elt [⟨t0, i0, [], 0⟩, ⟨t1, i1, ifs, 0⟩] scope pos) 0 it acc { cenv with scope := relabel scope env }) (compPost (model prog w) A E use Q acc cenv.locals) s₄) E s₃) E s₂

theorem block2 {σ : Type} {elt i0 i1 : Expr} {x0 x1 : Str} {p0 p1 : Pos} {ifs : List Expr} {scope : Scope} {cl : List (Str × Addr)} {pos : Pos} {use : Option (Value → Sem Unit)} {Q : Value → Shared → Prop} {s : Shared}
    {ax : Addr} {items : Array Value} (Led : σ → List (Addr × Obj)) (P : Nat → σ → List Value → Prop) (c₀ : σ)
    (hh : A.handled = none) (hl : s.heap.IsList ax items) (hax : (∃ o, h₀.get? ax = some o) ∨ ∃ o, ∀ c, (ax, o) ∈ Led c)
    (hcell : scope.names.filter (fun y => y.2 == .cell) = [(x1, .cell)]) (hkind : scope.kind = .function) (hx : scope.names.lookup x0 = some .local) (hgl : env.builtins = builtinsNs)
    (F : Fr h₀ L s.heap m) (N : News h₀ L s.heap (Led c₀)) (h0 : P 0 c₀ [])
    (turn : ∀ (c : σ) i v ys (m₂ : Str → Option Value) h tk g D C I oI oL ok vk, i < items.size → items[i]? = some v → P i c ys → (AllBare s.gens → AllBare g) → (∀ p ∈ Led c, p.1 ≠ D ∧ p.1 ≠ C + 1 ∧ ∀ q ∈ [(I, oI), (L, oL)], p.1 ≠ q.1) → m₂ x0 = some v →
      D ≠ C + 1 → (∀ q ∈ [(I, oI), (L, oL)], q.1 ≠ D ∧ q.1 ≠ C + 1) → ok.data = .cell vk →
      Fr h₀ C h m₂ → News h₀ C h ((D, lst ys) :: (C + 1, ok) :: [(I, oI), (L, oL)] ++ Led c) →
      wpAny (model prog w) A (eval i1 (compEnvC scope ((x1, C + 1) :: cl) C env)) (fun xv s₁ => wpAny (model prog w) A (pyIter xv) (fun it' s₂ =>
        codeAny (model prog w) A (.compStart (.ListComp elt [⟨.Name x0 p0, i0, [], 0⟩, ⟨.Name x1 p1, i1, ifs, 0⟩] scope pos) 1 it' (.ref D) (compEnvC scope ((x1, C + 1) :: cl) C env))
          (fun r s₅ => r = .ok .next ∧ OEnd h₀ C D (C + 1) s [(I, oI), (L, oL)] Led (P (i + 1)) s₅) s₂) (fun _ _ => False) s₁) (fun _ _ => False) { s with heap := h, toks := tk, gens := g })
    (hfin : ∀ (c : σ) ys D C (m' : Str → Option Value) h tk g, P items.size c ys → (AllBare s.gens → AllBare g) → Fr h₀ L h m → News h₀ L h ((D, lst ys) :: Led c) → (∀ p ∈ Led c, p.1 ≠ D) → h.Ns C m' → C ≠ L → h₀.get? C = none → (∀ p ∈ (D, lst ys) :: Led c, p.1 ≠ C) →
      compPost (model prog w) A E use Q (.ref D) C (.ok .next) { s with heap := h, toks := tk, gens := g })
    (hs1 : ∀ x, ∀ e : Env, foldedSetIterable i1 e x = pure x) :
    wpAny (model prog w) A (pyIter (.ref ax)) (Blk2 prog w A E env elt (.Name x0 p0) i0 (.Name x1 p1) i1 ifs scope cl pos use Q) E s := by
  revert prog w A E env h₀ L m elt i0 i1 x0 x1 p0 p1 ifs scope cl pos use Q s ax items Led P hh hl hax hcell hkind hx hgl F N h0 turn hfin hs1
  revert σ c₀
  show ∀ σ c₀ prog w A E env h₀ L m elt i0 i1 x0 x1 p0 p1 ifs scope cl pos use Q s ax items Led P hh hl hax hcell hkind hx hgl F N h0 turn hfin hs1, _
  refine' no_implicit_lambda% (Mine.clS (P := ?P) ((?g : ∀ x0 x1, ?P x0 x1) (Mine.pkS ?P).1 (Mine.pkS ?P).2))
  intros σ c₀
  intro prog w A E env h₀ L m elt i0 i1 x0 x1 p0 p1 ifs scope cl pos use Q s ax items Led P
  intros hh hl hax hcell hkind hx hgl F N h0 turn hfin hs1
  obtain ⟨ol, hol, xu18⟩ := id hl
  revert ol hol xu18
  intro ol hol xu18
  have haxlt : ax < s.heap.objs.size := Heap.lt_size hol
  have hne : ax ≠ s.heap.objs.size := Nat.ne_of_lt haxlt
  refine wpAny_pyIter_list hl ?_
  have W := Walks.list (prog := prog) (w := w) (A := A) hh s.heap.objs.size ax hne items
  obtain ⟨s₁, hs₁, hIdef⟩ : ∃ s₁ : Shared, s₁ = { s with heap := s.heap.push { cls := .type "list_iterator", data := .fields #[.ref ax, .int 0 0] } } ∧ s₁.heap.objs.size = s.heap.objs.size + 1 := ⟨_, rfl, Heap.size_push ..⟩
  revert s₁ hs₁ hIdef
  intro s₁ hs₁ hIdef
  have up : ∀ b o, s.heap.get? b = some o → s₁.heap.get? b = some o := fun b o e => by rw [hs₁]; exact Heap.get?_push_of_some _ e
  have hst : s₁.heap.IsListIter s.heap.objs.size ax 0 ∧ s₁.heap.IsList ax items := by
    rw [hs₁]; exact ⟨⟨_, Heap.get?_push_size _ rfl, rfl, rfl⟩, hl.at fun o e => Heap.get?_push_of_some _ e⟩
  have F₁ : Fr h₀ L s₁.heap m := by rw [hs₁]; exact F.push _
  have N₁ : News h₀ L s₁.heap (Led c₀) := fun p hp => ⟨up _ _ (N p hp).1, (N p hp).2⟩
  have hIL : L ≠ s.heap.objs.size := Nat.ne_of_lt F.ns.lt
  have hI₀ : h₀.get? s.heap.objs.size = none := next_is_new F
  have offI : ∀ p ∈ Led c₀, p.1 ≠ s.heap.objs.size := fun p hp => Nat.ne_of_lt (Heap.lt_size (N p hp).1)
  have hIlt : s.heap.objs.size < s₁.heap.objs.size := by rw [hIdef]; exact Nat.lt_succ_self _
  have haxlt1 : ax < s₁.heap.objs.size := Nat.lt_trans haxlt hIlt
  rw [← hs₁]
  generalize hIe : s.heap.objs.size = I at *
  refine wpAny_newObj_type (newCompEnv ?_)
  intro h₁ hns₁ hk₁ hc₁ hcf₁
  dsimp only at hns₁ hk₁ hc₁ hcf₁ ⊢
  generalize hH2 : s₁.heap.push { cls := .type "list", dict := none, data := .seq ([] : List Value).toArray } = H2 at hns₁ hk₁ hc₁ hcf₁ ⊢
  generalize hDe : s₁.heap.objs.size = D at *
  have hC : H2.objs.size = D + 1 := by rw [← hH2, Heap.size_push, hDe]
  rw [hC] at hns₁ hc₁ hcf₁ ⊢
  have hDlt : D < D + 1 := Nat.lt_succ_self _
  have hcell₁ := hc₁ x1 0 hcell
  have hcf := hcf₁ x1 hcell
  rw [hcf]
  have old : ∀ b o, s₁.heap.get? b = some o → h₁.get? b = some o := fun b o e => hk₁ b o (hH2 ▸ Heap.get?_push_of_some _ e)
  have hacc : h₁.get? D = some (lst []) := hk₁ _ _ (by rw [← hH2, ← hDe]; exact Heap.get?_push_size _ rfl)
  have lo : ∀ {b : Addr} {o : Obj}, s₁.heap.get? b = some o → b < D := fun e => by have := Heap.lt_size e; rw [hDe] at this; exact this
  have neD : ∀ {b : Addr} {o : Obj}, s₁.heap.get? b = some o → b ≠ D ∧ b ≠ D + 1 ∧ b ≠ D + 1 + 1 := fun e =>
    ⟨Nat.ne_of_lt (lo e), Nat.ne_of_lt (Nat.lt_succ_of_lt (lo e)), Nat.ne_of_lt (Nat.lt_succ_of_lt (Nat.lt_succ_of_lt (lo e)))⟩
  obtain ⟨oL, heL, hoL⟩ := ns_obj F₁.ns
  revert oL heL hoL
  intro oL heL hoL
  have habL : h₀.objs.size ≤ L := F.above
  have hLD := neD heL
  have hL₀ : h₀.get? L = none := Heap.get?_none_of_le habL
  have hab : ∀ k, D ≤ k → h₀.objs.size ≤ k := fun k hk => Nat.le_trans habL (Nat.le_trans (Nat.le_of_lt (lo heL)) hk)
  have hD₀ : h₀.get? D = none := Heap.get?_none_of_le (hab _ (Nat.le_refl _))
  have hC₀ : h₀.get? (D + 1) = none := Heap.get?_none_of_le (hab _ (Nat.le_succ _))
  have hk₀ : h₀.get? (D + 1 + 1) = none := Heap.get?_none_of_le (hab _ (Nat.le_succ_of_le (Nat.le_succ _)))
  obtain ⟨oi₀, hoi₀, xu19⟩ := id hst.1
  revert oi₀ hoi₀ xu19
  intro oi₀ hoi₀ xu19
  have hID := neD hoi₀
  obtain ⟨ok₀, hok₀, hokd₀⟩ := id hcell₁
  revert ok₀ hok₀ hokd₀
  intro ok₀ hok₀ hokd₀
  have hDk : D ≠ D + 1 + 1 := Nat.ne_of_lt (Nat.lt_succ_of_lt hDlt)
  have hDC : D ≠ D + 1 := Nat.ne_of_lt hDlt
  have hkC : D + 1 + 1 ≠ D + 1 := Nat.succ_ne_self _
  have hDf : D ∉ [I, ax] := fun hm => by
    rcases List.mem_cons.mp hm with e | hm
    · exact hID.1 e.symm
    · exact absurd haxlt1 (by rw [List.mem_singleton.mp hm]; exact Nat.lt_irrefl _)
  have hCf : D + 1 ∉ [I, ax] := fun hm => by
    rcases List.mem_cons.mp hm with e | hm
    · exact hID.2.1 e.symm
    · have := List.mem_singleton.mp hm
      rw [← this] at haxlt1
      exact Nat.lt_irrefl _ (Nat.lt_of_succ_lt haxlt1)
  have hst₁ : h₁.IsListIter I ax 0 ∧ h₁.IsList ax items := W.frame _ _ _ hst fun b _ o e => old b o e
  have loop : ∀ s₃ : Shared, s₃ = { s with heap := h₁, toks := s₁.toks } →
      codeAny (model prog w) A (.compLoop (.ListComp elt [⟨.Name x0 p0, i0, [], 0⟩, ⟨.Name x1 p1, i1, ifs, 0⟩] scope pos) 0 (.ref I) (.ref D) (compEnvC scope ((x1, D + 1 + 1) :: cl) (D + 1) env))
        (compPost (model prog w) A E use Q (.ref D) (D + 1)) s₃ := by
    intro s₃ hr14
    obtain rfl := hr14
    refine loop_two0
      (fun k s' => ∃ (c : σ) (h' : Heap) (tk : Nat) (g : Array GenState) (i : Nat) (ys : List Value) (m' : Str → Option Value) (ok : Obj) (vk : Option Value), s' = { s with heap := h', toks := tk, gens := g } ∧ (AllBare s.gens → AllBare g) ∧ i ≤ items.size ∧ k = items.size + 1 - i ∧ (h'.IsListIter I ax i ∧ h'.IsList ax items) ∧
        (∀ b o, h₀.get? b = some o → h'.get? b = some o) ∧ h'.Ns (D + 1) m' ∧ h'.get? D = some (lst ys) ∧ h'.get? (D + 1 + 1) = some ok ∧ ok.data = .cell vk ∧ h'.get? L = some oL ∧ News h₀ (D + 1) h' (Led c) ∧
        (∀ p ∈ Led c, p.1 ≠ D ∧ p.1 ≠ D + 1 + 1 ∧ p.1 ≠ I ∧ p.1 ≠ L) ∧ P i c ys) ?_ (items.size + 1)
      ⟨c₀, h₁, _, s.gens, 0, [], _, ok₀, none, rfl, id, Nat.zero_le _, rfl, hst₁, fun b o e => old b o (F₁.keep b o e), hns₁, hacc, hok₀, hokd₀, old _ _ heL, fun p hp => ⟨old _ _ (N₁ p hp).1, (neD (N₁ p hp).1).2.1, (N p hp).2.2⟩,
        fun p hp => ⟨(neD (N₁ p hp).1).1, (neD (N₁ p hp).1).2.2, offI p hp, (N p hp).2.1⟩, h0⟩ (fun _ => rfl) (fun x => hs1 x _)
    intro k s' xo15
    obtain ⟨c, h', tk, g, i, ys, m', ok, vk, hr20, hg, hi, hr21, hst', hk', hn', hD', hk₂', hkd', hL', N', off', hP⟩ := (xo15)
    revert c h' tk g i ys m' ok vk hr20 hg hi hr21 hst' hk' hn' hD' hk₂' hkd' hL' N' off' hP
    intro c h' tk g i ys m' ok vk hr20 hg hi hr21 hst' hk' hn' hD' hk₂' hkd' hL' N' off' hP
    obtain rfl := hr20
    obtain rfl := hr21
    by_cases hlt : i < items.size
    · refine W.item i _ _ _ hlt hst' ?_
      intro v h₂ tk₂ hPv hst₂ hk₂
      have k2 : ∀ b o, b ≠ I → h'.get? b = some o → h₂.get? b = some o := fun b o hb e => hk₂ b o (by simpa using hb) e
      refine wpAny_assign_Name (wpAny_storeName_local (lookup_relabel_local hx) (hn'.at' fun o e => k2 _ o (Ne.symm hID.2.1) e) ?_ (by simp [compEnvC, relabel, hkind]))
      intro h₃ hn₃ hs₃
      replace hs₃ : Heap.SameBut (D + 1) h₂ h₃ := hs₃
      have k3 : ∀ b o, b ≠ D + 1 → h₂.get? b = some o → h₃.get? b = some o := fun b o hb e => (hs₃.2 b hb).trans e
      have hst₃ : h₃.IsListIter I ax (i + 1) ∧ h₃.IsList ax items := W.frame _ _ _ hst₂ fun b hb o e => k3 b o (fun q => hCf (by have q' : b = D + 1 := q; rw [← q']; exact hb)) e
      obtain ⟨oI, heI, xu22⟩ := id hst₃.1
      revert oI heI xu22
      intro oI heI xu22
      have F₃ : Fr h₀ (D + 1) h₃ _ := ⟨hn₃, fun b o e => k3 b o (fun q => by rw [q, hC₀] at e; cases e) (k2 b o (fun q => by rw [q, hI₀] at e; cases e) (hk' b o e)), hab _ (Nat.le_succ _)⟩
      have N₃ : News h₀ (D + 1) h₃ ((D, lst ys) :: (D + 1 + 1, ok) :: [(I, oI), (L, oL)] ++ Led c) := fun p hp => by
        rcases List.mem_cons.mp hp with rfl | hp
        · exact ⟨k3 _ _ hDC (k2 _ _ (Ne.symm hID.1) hD'), hDC, hD₀⟩
        · rcases List.mem_cons.mp hp with rfl | hp
          · exact ⟨k3 _ _ hkC (k2 _ _ (Ne.symm hID.2.2) hk₂'), hkC, hk₀⟩
          · rcases List.mem_append.mp hp with hp | hp
            · rcases List.mem_cons.mp hp with rfl | hp
              · exact ⟨heI, hID.2.1, hI₀⟩
              · rw [List.mem_singleton.mp hp]
                exact ⟨k3 _ _ hLD.2.1 (k2 _ _ hIL hL'), hLD.2.1, hL₀⟩
            · exact ⟨k3 _ _ (N' p hp).2.1 (k2 _ _ (off' p hp).2.2.1 (N' p hp).1), (N' p hp).2⟩
      refine wpAny_mono (turn c i v ys _ h₃ _ g D (D + 1) I oI oL ok vk hlt hPv hP hg (fun p hp => ⟨(off' p hp).1, (off' p hp).2.1, fun q hq => by
          rcases List.mem_cons.mp hq with rfl | hq
          · exact (off' p hp).2.2.1
          · rw [List.mem_singleton.mp hq]; exact (off' p hp).2.2.2⟩) (by simp) hDk (fun q hq => by
          rcases List.mem_cons.mp hq with rfl | hq
          · exact ⟨hID.1, hID.2.2⟩
          · rw [List.mem_singleton.mp hq]; exact ⟨hLD.1, hLD.2.2⟩) hkd' F₃ N₃) (fun xv s₄ hq => wpAny_mono hq (fun it' s₅ hq₅ => codeAny_mono hq₅ fun r s₆ hr => ⟨hr.1, ?_⟩) fun _ _ q => q.elim) fun _ _ q => q.elim
      obtain ⟨c', ys', h₄, tk₄, g₄, ok₄, vk₄, m₄, hr23, hg₄, F₄, N₄, ap₄, hkd₄, hP₄⟩ := hr.2
      revert c' ys' h₄ tk₄ g₄ ok₄ vk₄ m₄ hr23 hg₄ F₄ N₄ ap₄ hkd₄ hP₄
      intro c' ys' h₄ tk₄ g₄ ok₄ vk₄ m₄ hr23 hg₄ F₄ N₄ ap₄ hkd₄ hP₄
      obtain rfl := hr23
      have gI := (N₄ _ (.tail _ (.tail _ (.head _)))).1
      have gL := (N₄ _ (.tail _ (.tail _ (.tail _ (.head _))))).1
      refine ⟨items.size + 1 - (i + 1), by omega, c', h₄, tk₄, g₄, i + 1, ys', m₄, ok₄, vk₄, rfl, hg₄, hlt, rfl, ?_, F₄.keep, F₄.ns, (N₄ _ (.head _)).1, (N₄ _ (.tail _ (.head _))).1, hkd₄, gL, fun p hp => N₄ p (.tail _ (.tail _ (.tail _ (.tail _ hp)))),
        fun p hp => ⟨(ap₄ p hp).1, (ap₄ p hp).2.1, (ap₄ p hp).2.2 _ (.head _), (ap₄ p hp).2.2 _ (.tail _ (.head _))⟩, hP₄⟩
      refine W.frame _ _ _ hst₃ ?_
      intro b hb o e
      rcases List.mem_cons.mp hb with rfl | hb
      · rw [heI] at e; cases e; exact gI
      · rw [List.mem_singleton.mp hb] at e ⊢
        rcases hax with ⟨o₀, ho₀⟩ | ⟨o₀, ho₀⟩
        · have : o₀ = o := by have := F₃.keep _ o₀ ho₀; rw [e] at this; exact (Option.some.inj this).symm
          exact this ▸ F₄.keep _ o₀ ho₀
        · have : o₀ = o := by have := (N₃ _ (.tail _ (.tail _ (.tail _ (.tail _ (ho₀ c)))))).1; rw [e] at this; exact (Option.some.inj this).symm
          exact this ▸ (N₄ _ (.tail _ (.tail _ (.tail _ (.tail _ (ho₀ c')))))).1
    · obtain rfl : i = items.size := Nat.le_antisymm hi (Nat.not_lt.mp hlt)
      refine W.done _ _ _ hst' ?_
      intro h₂ tk₂ hk₂
      have k2 : ∀ b o, b ≠ I → h'.get? b = some o → h₂.get? b = some o := fun b o hb e => hk₂ b o (by simpa using hb) e
      refine hfin c ys D (D + 1) m' h₂ tk₂ g hP hg ⟨hoL.ns (k2 _ _ hIL hL'), fun b o e => k2 b o (fun q => by rw [q, hI₀] at e; cases e) (hk' b o e), habL⟩ ?_ (fun p hp => (off' p hp).1) (hn'.at' fun o e => k2 _ o (Ne.symm hID.2.1) e) (Ne.symm hLD.2.1) hC₀ ?_
      · intro p hp
        rcases List.mem_cons.mp hp with rfl | hp
        · exact ⟨k2 _ _ (Ne.symm hID.1) hD', Ne.symm hLD.1, hD₀⟩
        · exact ⟨k2 _ _ (off' p hp).2.2.1 (N' p hp).1, (off' p hp).2.2.2, (N' p hp).2.2⟩
      · intro p hp
        rcases List.mem_cons.mp hp with rfl | hp
        · exact hDC
        · exact (N' p hp).2.1
  have fin := start_two (prog := prog) (w := w) (A := A) (d := 0) (.inl rfl) (loop _ rfl) (W.self 0 _ _ _ hst₁ (loop _ rfl))
  rw [hs₁]
  rw [hs₁] at fin
  exact fin
end
end Mine
end

section
theorem Mine.top_off_M1 : True := by
  w_top off
  trivial
local macro_rules | `(tactic| omega) => `(tactic| first | lia | omega (config := {}))
open PySem PySem.W PyProof.Rows PySem.Spec PySem.Calls
namespace Mine
open PyProof.Rows.LCg (lst lst_snoc NsObj ns_obj fr_but news_but)
theorem k_filled8 : (hd.heap_39 = hd.heap_39) ∧ (PySem.Challenge.rw_re0068_01 = PySem.Challenge.rw_re0068_01) := by
  k_fill
  exact ⟨rfl, rfl⟩

/-- the row, cut in twos -/
noncomputable def unitsF (row : Str) (n : Nat) : List Str := (List.range n).map fun (i : Nat) => Txt.slice row (some (0 + (i : Int) * 2)) (some (0 + (i : Int) * 2 + 2))
theorem unitsF_length (row : Str) (n : Nat) : (unitsF row n).length = n := by simp [unitsF]
theorem units_step {row : Str} {n i : Nat} {ys : List Value} {t : Tok} (hi : i < n) (h : StrsAre ys ((unitsF row n).take i)) : StrsAre (ys ++ [.str (Txt.slice row (some (0 + (i : Int) * 2)) (some (0 + (i : Int) * 2 + 2))) t]) ((unitsF row n).take (i + 1)) := by
  have : (unitsF row n).take (i + 1) = (unitsF row n).take i ++ [Txt.slice row (some (0 + (i : Int) * 2)) (some (0 + (i : Int) * 2 + 2))] := by
    rw [List.take_add_one]
    simp [unitsF, hi]
  rw [this]
  exact h.append' (.cons _ _ .nil)
theorem rsize2 {n k : Nat} (h : n = 2 * k) : Builtin.Range.rangeSize 0 n 2 = (k : Int) := by
  unfold Builtin.Range.rangeSize
  rw [if_pos (by decide)]
  split <;> omega
theorem small_all : ∀ n, n < 17 → Builtin.Range.small 0 ((n : Nat) : Int) 2 = true := by decide +kernel
theorem small_step {n k : Nat} (h : n = 2 * k) (h2 : n ≤ 16) : Builtin.Range.small 0 n 2 = true := small_all n (by omega)
structure MovS where
  adr : Addr
  vs : List Value
  nn : Nat
structure MEnd where
  e : Int
  te : Tok

noncomputable def movChk (us : List Str) (k e : Int) : Bool := decide (balF (Txt.join (Str.ofString "") (slS us k e)).cps.toList = 0)
noncomputable def movEnd (us : List Str) (k : Int) : Nat → Int → Int
  | 0, e => e
  | f + 1, e => if e < us.length then (if movChk us k e then e else movEnd us k f (e + 2)) else e
/-- a text that the check may be asked about -/
noncomputable def plainOk (x : Str) : Bool := decide (x.length ≤ 64) && (Builtin.Str.occurrences x (Str.ofString "\"") 0 x.length 1).isEmpty && x.cps.toList.all (fun c => decide (c < 128) && decide (c ≠ 92)) &&
  (List.range (x.cps.size + 1)).all (fun i => decide (0 ≤ balF (x.cps.toList.take i)))
noncomputable def movOk (us : List Str) (k : Int) : Nat → Int → Bool
  | 0, _ => true
  | f + 1, e => if e < us.length then plainOk (Txt.join (Str.ofString "") (slS us k e)) && (if movChk us k e then true else movOk us k f (e + 2)) else true
noncomputable def movOut (us : List Str) (k e : Int) : Str := Txt.join (Str.ofString "") (slS us 0 (k - 1) ++ slS us k e ++ [us.getD (k - 1).toNat Str.empty] ++ slS us e us.length)
noncomputable def movAt (us : List Str) (k : Int) : Bool := (Txt.item (us.getD (k - 1).toNat Str.empty) 0 == Str.ofString ")") && (Txt.item (us.getD k.toNat Str.empty) 0 == Str.ofString "(")
noncomputable def movStep (us : List Str) (acc : List Str) (k : Int) : List Str := if movAt us k then acc ++ [movOut us k (movEnd us k us.length (k + 2))] else acc
noncomputable def movedTo (us : List Str) : Nat → List Str
  | 0 => []
  | i + 1 => movStep us (movedTo us i) (1 + (i : Int) * 1)

theorem movedTo_pos {us : List Str} {i : Nat} {k e : Int} (hk : k = 1 + (i : Int) * 1) (h : movAt us k = true) (he : e = movEnd us k us.length (k + 2)) : movedTo us (i + 1) = movedTo us i ++ [movOut us k e] := by
  subst hk
  show movStep us (movedTo us i) _ = _
  unfold movStep
  rw [if_pos h, he]
theorem movedTo_neg {us : List Str} {i : Nat} {k : Int} (hk : k = 1 + (i : Int) * 1) (h : movAt us k = false) : movedTo us (i + 1) = movedTo us i := by
  subst hk
  show movStep us (movedTo us i) _ = _
  unfold movStep
  rw [h]; rfl
theorem plain_ok {x : Str} (h : plainOk x = true) : x.length ≤ 64 ∧ (Builtin.Str.occurrences x (Str.ofString "\"") 0 x.length 1).isEmpty = true ∧ (∀ (i c : Nat), x.cps[i]? = some c → c < 128 ∧ c ≠ 92) ∧ ∀ i, i ≤ x.cps.size → 0 ≤ balF (x.cps.toList.take i) := by
  unfold plainOk at h
  simp only [Bool.and_eq_true, decide_eq_true_eq, List.all_eq_true] at h
  obtain ⟨⟨⟨h1, h2⟩, h3⟩, h4⟩ := h
  refine ⟨h1, h2, fun i c hc => ?_, fun i hi => h4 i (List.mem_range.mpr (by omega))⟩
  exact h3 c (Array.mem_toList_iff.mpr (Array.mem_of_getElem? hc))

theorem sum_two {ws : List Str} (h : ∀ u ∈ ws, u.length = 2) : (ws.map (·.length)).sum = 2 * ws.length := by
  induction ws with
  | nil => rfl
  | cons u r ih =>
    simp only [List.map_cons, List.sum_cons, List.length_cons]
    rw [h u (.head _), ih fun v hv => h v (.tail _ hv)]
    omega
theorem slS_mem {us : List Str} {x y : Int} {u : Str} (h : u ∈ slS us x y) : u ∈ us := List.mem_of_mem_drop (List.mem_of_mem_take h)
theorem getD_str {us : List Str} {i : Nat} (h : i < us.length) : us.getD i Str.empty ∈ us := by
  have e : us.getD i Str.empty = us[i] := by simp [List.getD, h]
  rw [e]; exact List.getElem_mem _

section
variable {prog : Program} {w : World} {A : Around} {s : Shared} {p : Program} {loose : List Str} {mean : ExcName → Option Value} {mg mb : Str → Option Value} {Q E : Value → Shared → Prop} {h₀ : Heap} {L : Addr} {m : Str → Option Value} {news : List (Addr × Obj)}
theorem use_check {x : Str} {t : Tok} (F : Fr h₀ L s.heap m) (N : News h₀ L s.heap news) (X : (hd.heap_39 w.params).In h₀) (T : Top p loose mean mg mb h₀) (hh : A.handled = none) (hdp : A.depth ≤ 360) (hun : A.units ≤ 600) (hx : plainOk x = true)
    (ret : ∀ h' tk g, Fr h₀ L h' m → News h₀ L h' news → (AllBare s.gens → AllBare g) → Q (.bool (decide (balF x.cps.toList = 0))) { s with heap := h', toks := tk, gens := g }) :
    wpAny (model prog w) A (call (.ref 42) [.str x t]) Q E s := by
  obtain ⟨h1, h2, h3, h4⟩ := plain_ok hx
  exact am_weak (n := 6) (check_spec h1 h2 h3 h4 (X.keeps F.keep) (T.keeps F.keep) fun h' tk g k hg => ret h' tk g (fr_kp F k) (news_kp N k) hg) hh hdp hun
end

local macro_rules | `(tactic| walk_at "call builtin:len") => `(tactic| (k_here; (with_reducible show wpAny _ _ (call (Value.builtin "len") [Value.ref _]) _ _ _); k_dflt (refine' kst_len ?k1 ?k2 ?k3 ?k4 ?_; (case k1 => k_asm); (case k2 => k_memK); (case k3 => assumption); (case k4 => omega); k_whole)))
local macro_rules | `(tactic| walk_at $k:str) => if ["subscriptTail", "subscriptTail Name BinOp ref int"].contains k.getString then `(tactic| (k_here; (with_reducible show wpAny _ _ (subscriptTail _ _ (Value.ref _) (Value.int _ _)) _ _ _); k_dflt (refine' item_strs ?k1 ?k2 ?k3 ?k4 ?k5 ?k6 ?k7 ?_; (case k1 => k_asm); (case k2 => k_memK); (case k3 => assumption); (case k4 => assumption); (case k5 => omega); (case k6 => omega); (case k7 => omega); k_whole); intro _)) else Lean.Macro.throwUnsupported
local macro_rules | `(tactic| walk_at "subscriptTail Name Slice ref ref") => `(tactic| (k_here; (with_reducible show wpAny _ _ (subscriptTail _ (PySem.Expr.Slice (some _) (some _) none _) (Value.ref _) (Value.ref _)) _ _ _); k_dflt (refine' slice_strs ?F ?N ?l ?p ?q ?i ?m ?c ?z ?_ ?s ?t; (case F => k_asm); (case N => k_asm); (case l => k_memK); (case p => kmk_part); (case q => kmk_part); (case i => assumption); (case m => exact strs_run (by assumption) (by omega) (by omega)); (case c => assumption); (case z => omega); (case s => with_unfolding_all rfl); (case t => kmk_pure)); intro D' ws' h' F' N' l1 hI' hC' hL'; (try k_lt l1)))
local macro_rules | `(tactic| walk_at "subscriptTail Name Slice ref ref") => `(tactic| (k_here; (with_reducible show wpAny _ _ (subscriptTail _ (PySem.Expr.Slice none (some _) none _) (Value.ref _) (Value.ref _)) _ _ _); k_dflt (refine' slice_strs ?F ?N ?l ?p ?q ?i ?m ?c ?z ?_ ?s ?t; (case F => k_asm); (case N => k_asm); (case l => k_memK); (case p => kmk_part); (case q => kmk_part); (case i => assumption); (case m => exact strs_upto (by assumption) (by omega)); (case c => assumption); (case z => omega); (case s => with_unfolding_all rfl); (case t => kmk_pure)); intro D' ws' h' F' N' l1 hI' hC' hL'; (try k_lt l1)))
local macro_rules | `(tactic| walk_at "subscriptTail Name Slice ref ref") => `(tactic| (k_here; (with_reducible show wpAny _ _ (subscriptTail _ (PySem.Expr.Slice (some _) none none _) (Value.ref _) (Value.ref _)) _ _ _); k_dflt (refine' slice_strs ?F ?N ?l ?p ?q ?i ?m ?c ?z ?_ ?s ?t; (case F => k_asm); (case N => k_asm); (case l => k_memK); (case p => kmk_part); (case q => kmk_part); (case i => assumption); (case m => exact strs_from (by assumption) (by omega)); (case c => assumption); (case z => omega); (case s => with_unfolding_all rfl); (case t => kmk_pure)); intro D' ws' h' F' N' l1 hI' hC' hL'; (try k_lt l1)))
local macro_rules | `(tactic| walk_at "binaryOp Add ref ref") => `(tactic| (k_dflt (refine' add_strs ?F ?N ?l ?b ?w ?y ?p ?q ?_; (case F => k_asm); (case N => k_asm); (case l => k_memK); (case b => k_memK); (case w => assumption); (case y => first | assumption | exact .cons _ _ .nil); (case p => first | omega | (simp only [List.length_append, List.length_cons, List.length_nil]; omega)); (case q => first | omega | (simp only [List.length_append, List.length_cons, List.length_nil]; omega))); intro D' h' F' N' l1 hI'; (try k_lt l1)))
local macro_rules | `(tactic| walk_at $k:str) => if ["call builtin:str.join", "pyIter ref", "call ref", "exec Assign cons ListComp", "exec While BoolOp cons nil"].contains k.getString then `(tactic| (refine hold_of ?_)) else Lean.Macro.throwUnsupported
local macro_rules | `(tactic| walk_at "exec For Name Call cons nil") => `(tactic| (k_dflt (refine wpAny_For ?_ (by intro _; rfl))))

local macro_rules | `(tactic| walk_at "eval Name") => `(tactic| (k_here; (with_reducible show wpAny _ _ (eval (Expr.Name _ _) (compEnvC _ _ _ _)) _ _ _); k_dflt (refine ldVarK (Fr.ns (by k_asm)) (by assumption) ?_)))
theorem moved_spec {prog : Program} {w : World} {s : Shared} {p : Program} {loose : List Str} {mean : ExcName → Option Value} {mg mb : Str → Option Value} {Q E : Value → Shared → Prop}
    {row : Str} {t : Tok} {n : Nat} (hrow : row.length ≤ 16) (hlen : row.length = 2 * n)
    (hu2 : ∀ u ∈ unitsF row n, u.length = 2) (hok : ∀ k : Int, 1 ≤ k → k < n → movAt (unitsF row n) k = true → movOk (unitsF row n) k n (k + 2) = true)
    (X : (hd.heap_39 w.params).In s.heap) (T : Top p loose mean mg mb s.heap)
    (ret : ∀ h' tk g r vs nn, Keeps s.heap h' → (AllBare s.gens → AllBare g) → s.heap.get? r = none → h'.get? r = some (W.listOf vs.toArray nn) → StrsAre vs (movedTo (unitsF row n) (n - 1)) → Q (.ref r) { s with heap := h', toks := tk, gens := g }) :
    wpAny (model prog w) (AM 5) (call (.ref 120) [.str row t]) Q E s := by
  revert prog w s p loose mean mg mb Q E row t n hrow hlen hu2 hok X T ret
  show ∀ prog w s p loose mean mg mb Q E row t n hrow hlen hu2 hok X T ret, _
  intro prog w s p loose mean mg mb Q E row t n
  intros hrow hlen hu2 hok X T ret
  k_dflt (refine' call_fnC X T ?ho ?hcd ?hr ?hb ?hk ?hn ?_ ?c1 ?c2 ?c3; (case ho => k_is); (case hcd => k_is); (case hr => decide); (case hb => exact BindsTo.of_eq rfl); (case hk => intro n x hx; rw [List.mem_singleton.mp hx]; exact .inr ⟨rfl, rfl⟩); (case hn => decide); (case c1 => exact rfl); (case c2 => exact rfl); (case c3 => exact rfl))
  intro L' h' tk' cells hL' F' N' Y'
  obtain ⟨oc, hr1, hoc⟩ := CellsAre.one Y'
  revert oc hr1 hoc
  intro oc hr1 hoc
  obtain rfl := hr1
  replace hoc : oc.data = .cell (some (.str row t)) := hoc
  replace F' : Fr s.heap L' h' (fun _ => none) := F'
  clear Y'
  (try dsimp only)
  skip
  k_steps
  refine hold_in ?_
  k_dflt (refine lc_assign (by with_unfolding_all rfl) (by with_unfolding_all rfl) rfl (by decide) ?_)
  k_steps
  (rename Fr _ _ _ _ => lF'); (rename News _ _ _ _ => lN'); (rename IsRange _ _ _ _ _ _ _ _ => rgX)
  refine hold_in (comp_range (σ := Unit) (n := n) (fun _ => [(L' + 1, oc)]) (fun i _ ys => StrsAre ys ((unitsF row n).take i)) () rfl rgX (small_step hlen hrow) (rsize2 hlen) (by rw [sizeLine_eq]; omega) (by decide) rfl rfl lF' lN' .nil ?_)
  intro g
  refine CompOf.some rfl rfl rfl ?_ ?_
  · clear lF' lN'
    intro c i v ys m₂ h tk g D C oI oL hi
    intros hv
    obtain ⟨ti, hr2⟩ := hv
    revert ti hr2
    intro ti hr2 hP hg off hm F' N'
    obtain rfl := hr2
    have hi2 : 0 + (i : Int) * 2 < 64 := by omega
    refine wpAny_tests_nil ?_
    rw [if_pos rfl]
    k_steps
    refine q_end () (by assumption) (by assumption) hg (fun p hp => .tail _ hp) (fun p hp => by rw [List.mem_singleton.mp hp]; exact .head _) off ?_
    exact units_step hi hP
  · clear lF' lN'
    intro c ys D h tk g hys hyl hg off F' N'
    replace N' : News s.heap L' h [(D, W.listOf ys.toArray ys.length), (L' + 1, oc)] := N'
    have hil := StrsAre.length hys
    have hn8 : n ≤ 8 := by omega
    rw [List.take_of_length_le (Nat.le_of_eq (unitsF_length _ _))] at hys hil
    simp only [unitsF_length] at hil
    obtain ⟨us, hus⟩ : ∃ us, us = unitsF row n := ⟨_, rfl⟩
    revert us hus
    intro us hus
    rw [← hus] at hys hu2 hok
    have hul : us.length = n := by rw [hus, unitsF_length]
    have kMark := kstMark
    k_steps
    clear rgX
    (rename Fr _ _ _ _ => lF'); (rename News _ _ _ _ => lN'); (rename IsRange _ _ _ _ _ _ _ _ => rgY)
    refine hold_in (forG_range (σ := MovS) (n := n - 1) (fun c => [(c.adr, W.listOf c.vs.toArray c.nn), (D, W.listOf ys.toArray ys.length), (L' + 1, oc)]) (fun c => [(Str.ofString "found", .ref c.adr)]) [Str.ofString "end"]
      (fun i c => StrsAre c.vs (movedTo us i) ∧ c.vs.length ≤ i ∧ (@LT.lt Nat _ D c.adr ∧ @LT.lt Nat _ (L' + 1) c.adr)) ⟨_, [], 0⟩ rfl rgY (small_one (by omega) (by omega) (by omega) (by omega)) (by rw [rangeSize_one]; split <;> omega) lF' lN' (List.forall_mem_cons.mpr ⟨rfl, List.forall_mem_nil _⟩) ⟨.nil, Nat.zero_le _, by assumption⟩ ?_ ?_ rfl rfl)
    · clear lF' lN'
      intros c
      obtain ⟨adr, vs, nn⟩ := c
      revert adr vs nn
      intro adr vs nn i k t u h tk g I oI hi hk hP hgo hne F' N'
      obtain ⟨hvs, hvl, hda⟩ := hP
      revert hvs hvl hda
      intro hvs hvl hda
      have hdI : @Ne Nat adr I := hne _ (.head _)
      dsimp only at hvs hvl hda F' N'
      simp only [List.cons_append, List.nil_append] at N'
      have hk0 : 1 ≤ k := by omega
      have hk1 : k < n := by omega
      have hu1 := hu2 _ (getD_str (us := us) (i := (k - 1).toNat) (by omega))
      have hu2' := hu2 _ (getD_str (us := us) (i := k.toNat) (by omega))
      k_steps
      · have hat : movAt us k = true := by unfold movAt; simp_all only [Bool.and_self]
        (rename Fr _ _ _ _ => lF'); (rename News _ _ _ _ => lN')
        refine hold_in (whileG (σ := MEnd) (fun c => [(adr, W.listOf vs.toArray nn), (D, W.listOf ys.toArray ys.length), (L' + 1, oc), (I, oI)]) (fun c => [(Str.ofString "end", .int c.e c.te)]) []
          (fun c => k + 2 ≤ c.e ∧ c.e ≤ n + 1 ∧ ∃ f : Nat, (n : Int) ≤ c.e + f ∧ movOk us k f c.e = true ∧ movEnd us k f c.e = movEnd us k n (k + 2)) (fun c => ((n : Int) + 2 - c.e).toNat) ⟨_, _⟩ lF' lN' (List.forall_mem_cons.mpr ⟨rfl, List.forall_mem_nil _⟩) ⟨Int.le_refl _, by (show k + 2 ≤ (n : Int) + 1); omega, n, by (show (n : Int) ≤ k + 2 + n); omega, hok k (by omega) hk1 hat, rfl⟩ ?_)
        clear lF' lN'
        intros c
        obtain ⟨e, te⟩ := c
        revert e te
        intro e te u h tk g hP hg₂ F' N'
        obtain ⟨he1, he2, f, hf1, hf2, hf3⟩ := hP
        revert he1 he2 f hf1 hf2 hf3
        intro he1 he2 f hf1 hf2 hf3
        dsimp only at he1 he2 hf1 hf2 hf3 F' N'
        have hsum : ((slS us k e).map (·.length)).sum + (slS us k e).length * (Str.ofString "").length ≤ 200 := by
          rw [sum_two fun u hu => hu2 u (slS_mem hu)]
          have := slS_len us k e
          have e0 : (Str.ofString "").length = 0 := rfl
          rw [e0]; omega
        have hsum2 : ((slS us 0 (k - 1) ++ slS us k e ++ [us.getD (k - 1).toNat Str.empty] ++ slS us e us.length).map (·.length)).sum + (slS us 0 (k - 1) ++ slS us k e ++ [us.getD (k - 1).toNat Str.empty] ++ slS us e us.length).length * (Str.ofString "").length ≤ 200 := by
          rw [sum_two fun u hu => hu2 u (by
            rcases List.mem_append.mp hu with hu | hu
            · rcases List.mem_append.mp hu with hu | hu
              · rcases List.mem_append.mp hu with hu | hu
                · exact slS_mem hu
                · exact slS_mem hu
              · rw [List.mem_singleton.mp hu]; exact getD_str (by omega)
            · exact slS_mem hu)]
          have h1 := slS_len us k e
          have h2 := slS_len us 0 (k - 1)
          have h3 := slS_len us e us.length
          have e0 : (Str.ofString "").length = 0 := rfl
          rw [e0]
          simp only [List.length_append, List.length_cons, List.length_nil]
          omega
        by_cases hen : e < n
        · obtain ⟨f, hr3⟩ : ∃ f', f = f' + 1 := ⟨f - 1, by omega⟩
          revert f hr3
          intro f hr3
          obtain rfl := hr3
          have hf2' : plainOk (Txt.join (Str.ofString "") (slS us k e)) = true ∧ (movChk us k e = false → movOk us k f (e + 2) = true) := by
            unfold movOk at hf2
            rw [if_pos (by omega), Bool.and_eq_true] at hf2
            refine ⟨hf2.1, fun hq => ?_⟩
            have := hf2.2
            rw [hq] at this
            exact this
          have hf3' : (movChk us k e = true → e = movEnd us k n (k + 2)) ∧ (movChk us k e = false → movEnd us k f (e + 2) = movEnd us k n (k + 2)) := by
            rw [show movEnd us k (f + 1) e = (if e < us.length then (if movChk us k e then e else movEnd us k f (e + 2)) else e) from rfl, if_pos (by omega)] at hf3
            refine ⟨fun hq => ?_, fun hq => ?_⟩
            · rw [hq] at hf3; exact hf3
            · rw [hq] at hf3; exact hf3
          k_steps
          refine hold_in ?_
          k_dflt (refine' join_strs ?N ?m ?w ?x hsum ?k ?_; (case N => k_asm); (case m => k_memK); (case w => assumption); (case x => exact Nat.le_of_ble_eq_true rfl); (case k => exact Nat.le_of_ble_eq_true rfl))
          intro tj tkj
          k_steps
          refine hold_in (use_check (by assumption) (by assumption) X T rfl (Nat.le_of_ble_eq_true rfl) (Nat.le_of_ble_eq_true rfl) hf2'.1 ?_)
          intro hc tkc gc Fc Nc hgc
          k_steps
          · have he := hf3'.1 (decide_eq_true (by assumption))
            refine hold_in ?_
            k_dflt (refine' join_strs ?N ?m ?w ?x hsum2 ?k ?_; (case N => k_asm); (case m => k_memK); (case w => assumption); (case x => exact Nat.le_of_ble_eq_true rfl); (case k => exact Nat.le_of_ble_eq_true rfl))
            intro tj2 tkj2
            k_steps
            (rename Fr _ _ _ _ => lF'); (rename News _ _ _ _ => lN')
            simp only [List.push_toArray] at lN'
            refine g_end ⟨adr, vs ++ [.str (movOut us k e) tj2], nn + 1⟩ lF' lN' (fun b => hgc (hg₂ (hgo b))) (by lcg_sub) (by k_mem) (List.forall_mem_cons.mpr ⟨hdI, fun p hp => hne p (.tail _ hp)⟩) (List.forall_mem_cons.mpr ⟨rfl, List.forall_mem_nil _⟩) (fun z hz1 hz2 hc => ?_) ⟨?_, ?_, hda⟩
            · have h1 := hz2 _ (.head _)
              have h2 : z ≠ Str.ofString "end" := by intro e; subst e; revert hc; decide
              simp only [kstB, if_neg hz1, if_neg h1, if_neg h2, hc, List.contains_nil, Bool.false_eq_true, if_false]
            · rw [movedTo_pos hk hat (hul.symm ▸ he)]
              exact StrsAre.append' (by assumption : StrsAre vs (movedTo us i)) (.cons _ _ .nil)
            · show (vs ++ [_]).length ≤ i + 1
              rw [List.length_append, List.length_singleton]; omega
          · have hc := decide_eq_false (p := balF (Txt.join (Str.ofString "") (slS us k e)).cps.toList = 0) (by assumption)
            (rename Fr _ _ _ _ => lF'); (rename News _ _ _ _ => lN')
            refine w_end ⟨e + 2, _⟩ lF' lN' (fun b => hgc (hg₂ b)) (by lcg_sub) (List.forall_mem_cons.mpr ⟨rfl, List.forall_mem_nil _⟩) (fun z hz _ => ?_) ⟨?_, ?_, f, ?_, hf2'.2 hc, hf3'.2 hc⟩ ?_
            · have h1 := hz _ (.head _)
              simp only [kstB, if_neg h1, List.contains_nil, Bool.false_eq_true, if_false]
            · show k + 2 ≤ e + 2; omega
            · show e + 2 ≤ (n : Int) + 1; omega
            · show (n : Int) ≤ e + 2 + f; omega
            · show ((n : Int) + 2 - (e + 2)).toNat < ((n : Int) + 2 - e).toNat; omega
        · have he : e = movEnd us k n (k + 2) := by
            rw [← hf3]
            cases f with
            | zero => rfl
            | succ f => show e = (if e < us.length then _ else e); rw [if_neg (by omega)]
          k_steps
          refine hold_in ?_
          k_dflt (refine' join_strs ?N ?m ?w ?x hsum2 ?k ?_; (case N => k_asm); (case m => k_memK); (case w => assumption); (case x => exact Nat.le_of_ble_eq_true rfl); (case k => exact Nat.le_of_ble_eq_true rfl))
          intro tj2 tkj2
          k_steps
          (rename Fr _ _ _ _ => lF'); (rename News _ _ _ _ => lN')
          simp only [List.push_toArray] at lN'
          refine g_end ⟨adr, vs ++ [.str (movOut us k e) tj2], nn + 1⟩ lF' lN' (fun b => hg₂ (hgo b)) (by lcg_sub) (by k_mem) (List.forall_mem_cons.mpr ⟨hdI, fun p hp => hne p (.tail _ hp)⟩) (List.forall_mem_cons.mpr ⟨rfl, List.forall_mem_nil _⟩) (fun z hz1 hz2 hc => ?_) ⟨?_, ?_, hda⟩
          · have h1 := hz2 _ (.head _)
            have h2 : z ≠ Str.ofString "end" := by intro e; subst e; revert hc; decide
            simp only [kstB, if_neg hz1, if_neg h1, if_neg h2, hc, List.contains_nil, Bool.false_eq_true, if_false]
          · rw [movedTo_pos hk hat (hul.symm ▸ he)]
            exact StrsAre.append' (by assumption : StrsAre vs (movedTo us i)) (.cons _ _ .nil)
          · show (vs ++ [_]).length ≤ i + 1
            rw [List.length_append, List.length_singleton]; omega
      · have hat : movAt us k = false := by unfold movAt; simp_all only [Bool.and_false, Bool.false_and, Bool.and_self]
        (rename Fr _ _ _ _ => lF'); (rename News _ _ _ _ => lN')
        refine g_end ⟨adr, vs, nn⟩ lF' lN' hgo (by lcg_sub) (by k_mem) (List.forall_mem_cons.mpr ⟨hdI, fun p hp => hne p (.tail _ hp)⟩) (List.forall_mem_cons.mpr ⟨rfl, List.forall_mem_nil _⟩) (fun z hz1 hz2 hc => ?_) ⟨?_, ?_, hda⟩
        · have h1 := hz2 _ (.head _)
          have h2 : z ≠ Str.ofString "end" := by intro e; subst e; revert hc; decide
          simp only [kstB, if_neg hz1, if_neg h1, if_neg h2, hc, List.contains_nil, Bool.false_eq_true, if_false]
        · rw [movedTo_neg hk hat]; assumption
        · show vs.length ≤ i + 1; omega
      · have hat : movAt us k = false := by unfold movAt; simp_all only [Bool.and_false, Bool.false_and, Bool.and_self]
        (rename Fr _ _ _ _ => lF'); (rename News _ _ _ _ => lN')
        refine g_end ⟨adr, vs, nn⟩ lF' lN' hgo (by lcg_sub) (by k_mem) (List.forall_mem_cons.mpr ⟨hdI, fun p hp => hne p (.tail _ hp)⟩) (List.forall_mem_cons.mpr ⟨rfl, List.forall_mem_nil _⟩) (fun z hz1 hz2 hc => ?_) ⟨?_, ?_, hda⟩
        · have h1 := hz2 _ (.head _)
          have h2 : z ≠ Str.ofString "end" := by intro e; subst e; revert hc; decide
          simp only [kstB, if_neg hz1, if_neg h1, if_neg h2, hc, List.contains_nil, Bool.false_eq_true, if_false]
        · rw [movedTo_neg hk hat]; assumption
        · show vs.length ≤ i + 1; omega
    · clear lF' lN'
      intros c
      obtain ⟨adr, vs, nn⟩ := c
      revert adr vs nn
      intro adr vs nn u h tk g hP hgo F' N'
      obtain ⟨hvs, hvl, hda⟩ := hP
      revert hvs hvl hda
      intro hvs hvl hda
      dsimp only at hvs hvl hda F' N'
      have hbare : AllBare s.gens → AllBare g := fun b => hgo (hg b)
      have hvs2 : StrsAre vs (movedTo (unitsF row n) (n - 1)) := hus ▸ hvs
      k_steps
      exact ret h tk g adr vs nn (Fr.keep F') hbare (N' _ (.head _)).2.2 (N' _ (.head _)).1 hvs2
end Mine
end

section
theorem Mine.top_off_W1 : True := by
  w_top off
  trivial
local macro_rules | `(tactic| omega) => `(tactic| first | lia | omega (config := {}))
open PySem PySem.W PyProof.Rows PySem.Spec PySem.Calls


namespace Mine
open PyProof.Rows.LCg (lst lst_snoc NsObj ns_obj fr_but news_but)
theorem k_filled9 : (hd.heap_39 = hd.heap_39) ∧ (PySem.Challenge.rw_re0068_01 = PySem.Challenge.rw_re0068_01) := by
  k_fill
  exact ⟨rfl, rfl⟩

local macro_rules | `(tactic| walk_at $k:str) => if ["pyIter str", "eval ListComp", "call builtin:str.join"].contains k.getString then `(tactic| (refine hold_of ?_)) else Lean.Macro.throwUnsupported
local macro_rules | `(tactic| walk_at "eval Name") => `(tactic| (k_here; (with_reducible show wpAny _ _ (eval (Expr.Name _ _) (compEnvC _ _ _ _)) _ _ _); k_dflt (refine ldVarK (Fr.ns (by k_asm)) (by assumption) ?_)))

noncomputable def sgn (c : Nat) : Str := ⟨#[c]⟩
noncomputable def bareF (x : Str) : List Str := x.cps.toList.map fun c => Str.ofString "\\" ++ sgn c
noncomputable def quotF (x : Str) : List Str := x.cps.toList.map sgn
noncomputable def wordF (x : Str) (bare : Int) : Str := if bare = 0 then Str.ofString "\"" ++ Txt.join (Str.ofString "") (quotF x) ++ Str.ofString "\"" else Txt.join (Str.ofString "") (bareF x)

theorem eq34 {c : Nat} (h : (({ cps := #[c] } : Str) == Str.ofString "\"") = true) : c = 34 := by
  have e : Str.ofString "\"" = ⟨#[34]⟩ := by decide
  rw [e] at h
  have := eq_of_beq h
  injection this with q; injection q with q; injection q
theorem map_step {x : Str} {i c : Nat} {ys : List Value} {t : Tok} {f : Nat → Str} (hc : x.cps[i]? = some c) (h : StrsAre ys ((x.cps.toList.map f).take i)) : StrsAre (ys ++ [.str (f c) t]) ((x.cps.toList.map f).take (i + 1)) := by
  have : (x.cps.toList.map f).take (i + 1) = (x.cps.toList.map f).take i ++ [f c] := by
    rw [List.take_add_one]
    have : x.cps.toList[i]? = some c := by simpa using hc
    simp [this]
  rw [this]
  exact h.append' (.cons _ _ .nil)
theorem sum_le {α : Type} {l : List α} {f : α → Str} {k : Nat} (h : ∀ a ∈ l, (f a).length ≤ k) : ((l.map f).map (·.length)).sum ≤ k * l.length := by
  induction l with
  | nil => exact Nat.le_refl _
  | cons a r ih =>
    simp only [List.map_cons, List.sum_cons, List.length_cons]
    have h1 := h a (.head _)
    have h2 := ih fun b hb => h b (.tail _ hb)
    rw [Nat.mul_succ]; omega

theorem word_spec {prog : Program} {w : World} {s : Shared} {p : Program} {loose : List Str} {mean : ExcName → Option Value} {mg mb : Str → Option Value} {Q E : Value → Shared → Prop}
    {x : Str} {t tb : Tok} {bare : Int} (hx : x.length ≤ 32) (ha : x.cps.all (· < 128) = true) (hq : ∀ (i c : Nat), x.cps[i]? = some c → c ≠ 34) (hb : 0 ≤ bare ∧ bare ≤ 1)
    (X : (hd.heap_39 w.params).In s.heap) (T : Top p loose mean mg mb s.heap)
    (ret : ∀ h' tk g t, Keeps s.heap h' → (AllBare s.gens → AllBare g) → Q (.str (wordF x bare) t) { s with heap := h', toks := tk, gens := g }) :
    wpAny (model prog w) (AM 5) (call (.ref 96) [.str x t, .int bare tb]) Q E s := by
  revert prog w s p loose mean mg mb Q E x t tb bare hx ha hq hb X T ret
  show ∀ prog w s p loose mean mg mb Q E x t tb bare hx ha hq hb X T ret, _
  intro prog w s p loose mean mg mb Q E x t tb bare
  intros hx ha hq hb X T ret
  k_dflt (refine' call_fn X T ?ho ?hcd ?hr ?hb ?hl ?_ ?c1 ?c2 ?c3 ?c4; (case ho => k_is); (case hcd => k_is); (case hr => decide); (case hb => exact BindsTo.of_eq rfl); (case hl => exact locs rfl); (case c1 => exact rfl); (case c2 => exact rfl); (case c3 => exact rfl); (case c4 => decide))
  intro L' h' F' N'
  have hxs : x.cps.size ≤ 32 := hx
  (try dsimp only)
  skip
  k_steps
  · refine hold_in ?_
    k_dflt (refine lc_eval (by with_unfolding_all rfl) rfl (by decide) ?_)
    k_steps
    (rename Fr _ _ _ _ => lF'); (rename News _ _ _ _ => lN')
    refine hold_in (comp_str (σ := Unit) (fun _ => []) (fun i _ ys => StrsAre ys ((x.cps.toList.map (fun c => Str.ofString "\\" ++ sgn c)).take i)) () rfl (by rw [sizeLine_eq]; omega) ha (by decide) rfl rfl lF' lN' .nil ?_)
    intro g
    refine CompOf.none ?_ ?_
    · clear lF' lN'
      intro c i v ys m₂ h tk g D C oI oL hi
      intros hv
      obtain ⟨ch, tc, hch, hr1⟩ := hv
      revert ch tc hch hr1
      intro ch tc hch hr1 hP hg off hm F' N'
      obtain rfl := hr1

      refine wpAny_tests_nil ?_
      rw [if_pos rfl]
      k_steps
      · refine q_end () (by assumption) (by assumption) hg (fun p hp => hp) (fun p hp => nomatch hp) off ?_
        exact map_step (f := fun c => Str.ofString "\\" ++ sgn c) hch hP
    · clear lF' lN'
      intro c ys D h tk g hys hyl hg off F' N'
      replace N' : News s.heap L' h [(D, W.listOf ys.toArray ys.length)] := N'
      rw [List.take_of_length_le (by simp)] at hys
      have hsum : ((x.cps.toList.map (fun c => Str.ofString "\\" ++ sgn c)).map (·.length)).sum + (x.cps.toList.map (fun c => Str.ofString "\\" ++ sgn c)).length * (Str.ofString "").length ≤ 200 := by
        have e0 : (Str.ofString "").length = 0 := rfl
        have h1 := sum_le (l := x.cps.toList) (f := (fun c => Str.ofString "\\" ++ sgn c)) (k := 2) fun a _ => (by rw [Str.length_append]; exact Nat.le_refl 2)
        rw [e0]
        have h2 : x.cps.toList.length = x.cps.size := Array.length_toList
        omega
      k_steps
      refine hold_in ?_
      k_dflt (refine' join_strs ?N ?m ?w ?x hsum ?k ?_; (case N => k_asm); (case m => k_memK); (case w => assumption); (case x => exact Nat.le_of_ble_eq_true rfl); (case k => exact Nat.le_of_ble_eq_true rfl))
      intro tj tkj
      k_steps
      have e1 : wordF x bare = Txt.join (Str.ofString "") (x.cps.toList.map fun c => Str.ofString "\\" ++ sgn c) := by unfold wordF bareF; rw [if_neg (by assumption)]
      exact e1 ▸ ret _ _ _ _ (Fr.keep (by assumption)) hg
  · refine hold_in ?_
    k_dflt (refine lc_eval (by with_unfolding_all rfl) rfl (by decide) ?_)
    k_steps
    (rename Fr _ _ _ _ => lF'); (rename News _ _ _ _ => lN')
    refine hold_in (comp_str (σ := Unit) (fun _ => []) (fun i _ ys => StrsAre ys ((x.cps.toList.map sgn).take i)) () rfl (by rw [sizeLine_eq]; omega) ha (by decide) rfl rfl lF' lN' .nil ?_)
    intro g
    refine CompOf.none ?_ ?_
    · clear lF' lN'
      intro c i v ys m₂ h tk g D C oI oL hi
      intros hv
      obtain ⟨ch, tc, hch, hr2⟩ := hv
      revert ch tc hch hr2
      intro ch tc hch hr2 hP hg off hm F' N'
      obtain rfl := hr2
      have hne := hq i ch hch
      refine wpAny_tests_nil ?_
      rw [if_pos rfl]
      k_steps
      · exact absurd (eq34 (by assumption)) hne
      · refine q_end () (by assumption) (by assumption) hg (fun p hp => hp) (fun p hp => nomatch hp) off ?_
        exact map_step (f := sgn) hch hP
    · clear lF' lN'
      intro c ys D h tk g hys hyl hg off F' N'
      replace N' : News s.heap L' h [(D, W.listOf ys.toArray ys.length)] := N'
      rw [List.take_of_length_le (by simp)] at hys
      have hsum : ((x.cps.toList.map sgn).map (·.length)).sum + (x.cps.toList.map sgn).length * (Str.ofString "").length ≤ 200 := by
        have e0 : (Str.ofString "").length = 0 := rfl
        have h1 := sum_le (l := x.cps.toList) (f := sgn) (k := 1) fun a _ => Nat.le_refl 1
        rw [e0]
        have h2 : x.cps.toList.length = x.cps.size := Array.length_toList
        omega
      have hjl : (Txt.join (Str.ofString "") (x.cps.toList.map sgn)).length ≤ 40 := by
        rw [KT.join_ones _ (fun a ha => by obtain ⟨c, _, rfl⟩ := List.mem_map.mp ha; rfl), List.length_map]
        have h2 : x.cps.toList.length = x.cps.size := Array.length_toList
        omega
      k_steps
      refine hold_in ?_
      k_dflt (refine' join_strs ?N ?m ?w ?x hsum ?k ?_; (case N => k_asm); (case m => k_memK); (case w => assumption); (case x => exact Nat.le_of_ble_eq_true rfl); (case k => exact Nat.le_of_ble_eq_true rfl))
      intro tj tkj
      k_steps
      have e1 : wordF x bare = Str.ofString "\"" ++ Txt.join (Str.ofString "") (x.cps.toList.map sgn) ++ Str.ofString "\"" := by unfold wordF quotF; rw [if_pos (by assumption)]
      exact e1 ▸ ret _ _ _ _ (Fr.keep (by assumption)) hg
end Mine
end

section
theorem Mine.top_off_IT : True := by
  w_top off
  trivial
local macro_rules | `(tactic| omega) => `(tactic| first | lia | omega (config := {}))
open PySem PySem.W PyProof.Rows PySem.Spec PySem.Calls
namespace Mine

theorem cit_owner : Manifest.owners.lookup (String.ofList ['r', 'o', 't', 'a', 'r', 'e', 't', 'i', '_', 'e', 'l', 'b', 'a', 'l', 'l', 'a', 'c'].reverse) = some Manifest.sig_callable_iterator := by kernel_rfl
theorem cit_iter : Slot "callable_iterator" "__iter__" "callable_iterator.__iter__" :=
  .of (owner := "callable_iterator") (n := "__iter__") (by rw [typeLookup_type, builtinLookup_eq_fast]; kernel_rfl) (by decide +kernel) (by decide +kernel) (by decide +kernel)
    (by first | exact .inl (by decide +kernel) | exact .inr (by decide +kernel)) (by rw [isSubtype_type]; kernel_rfl)
theorem cit_next : Slot "callable_iterator" "__next__" "callable_iterator.__next__" :=
  .of (owner := "callable_iterator") (n := "__next__") (by rw [typeLookup_type, builtinLookup_eq_fast]; kernel_rfl) (by decide +kernel) (by decide +kernel) (by decide +kernel)
    (by first | exact .inl (by decide +kernel) | exact .inr (by decide +kernel)) (by rw [isSubtype_type]; kernel_rfl)
theorem cit_iter_entry : entryFor table "callable_iterator.__iter__" = some Builtin.«dict_keyiterator.__iter__» :=
  entryFor_alias (id' := "dict_keyiterator.__iter__") (by kernel_rfl) rfl (by decide +kernel) (by kernel_rfl)
theorem cit_next_entry : entryFor table "callable_iterator.__next__" = some Builtin.«callable_iterator.__next__» := entryFor_of_tree (by kernel_rfl)
theorem cit_iter_args (a : Value) : argsOk "callable_iterator.__iter__" ⟨[a], []⟩ := by
  unfold argsOk; rw [signature?_of (id := "callable_iterator.__iter__") (n := ['_', '_', 'r', 'e', 't', 'i', '_', '_']) (o := ['r', 'o', 't', 'a', 'r', 'e', 't', 'i', '_', 'e', 'l', 'b', 'a', 'l', 'l', 'a', 'c']) (by kernel_rfl) cit_owner]; kernel_rfl
theorem cit_next_args (a : Value) : argsOk "callable_iterator.__next__" ⟨[a], []⟩ := by
  unfold argsOk; rw [signature?_of (id := "callable_iterator.__next__") (n := ['_', '_', 't', 'x', 'e', 'n', '_', '_']) (o := ['r', 'o', 't', 'a', 'r', 'e', 't', 'i', '_', 'e', 'l', 'b', 'a', 'l', 'l', 'a', 'c']) (by kernel_rfl) cit_owner]; kernel_rfl

/-- an iterator over what a bound method hands back, until a text comes that is empty -/
noncomputable def citObj (b : Addr) (t : Tok) : Obj := { cls := .type "callable_iterator", data := .fields #[.ref b, .str (Str.ofString "") t, .bool false] }
noncomputable def citEnd : Obj := { cls := .type "callable_iterator", data := .fields #[.none, .none, .bool true] }
noncomputable def bmObj (f self : Addr) : Obj := { cls := .type "method", data := .fields #[.ref f, .ref self] }

section
variable {prog : Program} {w : World} {A : Around} {E : Value → Shared → Prop} {s : Shared}

theorem any_borrowed {M : Model} {f : Value} {pos : List Value} {Q : Value → Shared → Prop} (h : wpAny M A (call f pos) Q E s) : wpAny M A (callBorrowed f pos) Q E s := by
  have e : callBorrowed f pos = (call f pos).keep [borrowed] := by
    unfold callBorrowed call runValue run
    show _ = Sem.call _ none false ([borrowed] ++ []) (fun r => _)
    congr 1
    funext r
    cases r with
    | error e => rfl
    | ok fl => cases fl <;> rfl
  rw [e]
  exact wpAny_keep h

theorem pyIter_cit {it b : Addr} {t : Tok} {Q : Value → Shared → Prop} (hit : s.heap.get? it = some (citObj b t) ∨ s.heap.get? it = some citEnd) (h : Q (.ref it) s) : wpAny (model prog w) A (pyIter (.ref it)) Q E s := by
  have hT : s.TypeIs (.ref it) "callable_iterator" := by rcases hit with h | h <;> exact ⟨_, h, rfl⟩
  refine wpAny_pyIter_slot hT cit_iter (wpAny_call_entry cit_iter hT cit_iter_entry ?_ (cit_iter_args _))
  show wpAny _ _ (ret (.ref it)) _ _ s
  exact wpAny_pure ⟨_, rfl, "callable_iterator", _, hT, cit_next.lookup, h⟩

/-- the next of an iterator that is at its end -/
theorem next_citEnd {it : Addr} {Q : Option Value → Shared → Prop} (hh : A.handled = none) (hit : s.heap.get? it = some citEnd)
    (hQ : ∀ h', (∀ b o, s.heap.get? b = some o → h'.get? b = some o) → Q none { s with heap := h' }) : wpAny (model prog w) A (pyNext (.ref it)) Q E s := by
  have hT : s.TypeIs (.ref it) "callable_iterator" := ⟨_, hit, rfl⟩
  unfold pyNext
  refine wpAny_bind (wpAny_attempt (wpAny_callSpecial?_slot (name := Str.ofString "__next__") hT cit_next
    (wpAny_call_entry cit_next hT cit_next_entry ?_ (cit_next_args _))))
  show wpAny _ _ (field (.ref it) 2 >>= _) _ _ s
  refine wpAny_bind (wpAny_field hit rfl (x := .bool true) rfl ?_)
  show wpAny _ _ (rule _ >>= fun _ => Builtin.SmallTypes.stopIteration >>= _) _ _ s
  refine wpAny_bind (wpAny_rule (wpAny_bind ?_))
  show wpAny _ _ (newExc (.type "StopIteration") [] >>= _) _ _ _
  refine wpAny_bind ?_
  simp only [newExc, newTuple]
  refine wpAny_bind (wpAny_newObj_type ?_ (by size_fits))
  refine wpAny_bind (m := firstArgMember _ _) (wpAny_of_eq (a := Value.none) (by first | rfl | (simp only [firstArgMember]; rfl)) ?_)
  refine wpAny_newObj_type ?_ (by size_fits)
  simp only [raiseNew]
  refine wpAny_bind (wpAny_handled ?_)
  rw [show A.in1.handled = none from hh]
  refine wpAny_bind (wpAny_pure (wpAny_throw ?_))
  refine wpAny_bind (wpAny_isInstance (T := "StopIteration") (b := true) ⟨_, Heap.get?_push_size _ rfl, rfl⟩ isSubtype_stop ?_)
  exact wpAny_pure (hQ _ fun b o e => Heap.get?_push_of_some _ (Heap.get?_push_of_some _ e))

theorem borrows_bm {M : Model} {b f self : Addr} {of : Obj} {fd : FuncData} {Q : Bool → Shared → Prop} (hb : s.heap.get? b = some (bmObj f self)) (hf : s.heap.get? f = some of) (hd : of.data = .func fd) (h : Q true s) :
    wpAny M A (borrowsExactly (.ref b)) Q E s := by
  unfold borrowsExactly
  show wpAny _ _ (load b >>= _) _ _ s
  refine wpAny_bind (wpAny_load hb ?_)
  show wpAny _ _ (load f >>= _) _ _ s
  refine wpAny_bind (wpAny_load hf ?_)
  rw [hd]
  exact wpAny_pure h

noncomputable def CitPost (it b f self : Addr) (t : Tok) (of : Obj) (Q : Option Value → Shared → Prop) (r : Result) (s₁ : Shared) : Prop :=
  match r with
  | .ok (.ret v) => ∃ y u, v = .str y u ∧ s₁.heap.get? it = some (citObj b t) ∧ s₁.heap.get? b = some (bmObj f self) ∧ s₁.heap.get? f = some of ∧
      ((y == Str.ofString "") = false → Q (some (.str y u)) s₁) ∧ ((y == Str.ofString "") = true → ∀ h', h'.get? it = some citEnd → (∀ b o, b ≠ it → s₁.heap.get? b = some o → h'.get? b = some o) → Q none { s₁ with heap := h' })
  | _ => False

theorem next_cit {it b f self : Addr} {t : Tok} {of : Obj} {fd : FuncData} {Q : Option Value → Shared → Prop} (hh : A.handled = none) (hit : s.heap.get? it = some (citObj b t)) (hb : s.heap.get? b = some (bmObj f self)) (hf : s.heap.get? f = some of) (hd : of.data = .func fd)
    (h : codeAny (model prog w) A.in1 (.call (.ref f) ⟨[.ref self], []⟩) (CitPost it b f self t of Q) s) :
    wpAny (model prog w) A (pyNext (.ref it)) Q E s := by
  have hT : s.TypeIs (.ref it) "callable_iterator" := ⟨_, hit, rfl⟩
  unfold pyNext
  refine wpAny_bind (wpAny_attempt (wpAny_callSpecial?_slot (name := Str.ofString "__next__") hT cit_next
    (wpAny_call_entry cit_next hT cit_next_entry ?_ (cit_next_args _))))
  show wpAny _ _ (field (.ref it) 2 >>= _) _ _ s
  refine wpAny_bind (wpAny_field hit rfl (x := .bool false) rfl ?_)
  show wpAny _ _ (field (.ref it) 0 >>= fun f => (callOutOfASlot f).attempt >>= _) _ _ s
  refine wpAny_bind (wpAny_field hit rfl (x := .ref b) rfl ?_)
  refine wpAny_bind (wpAny_attempt ?_)
  unfold callOutOfASlot
  refine wpAny_bind (borrows_bm hb hf hd ?_)
  rw [if_pos rfl]
  refine any_borrowed (wpAny_call (ks_codeAny_call_bound hb (codeAny_mono h fun r s₁ hr => ?_)))
  cases r with
  | error e => exact (hr : False).elim
  | ok fl =>
    cases fl with
    | next => exact (hr : False).elim
    | brk => exact (hr : False).elim
    | cont => exact (hr : False).elim
    | ret v =>
    obtain ⟨y, u, rfl, hit₁, hb₁, hf₁, h1, h2⟩ := hr
    show wpAny _ _ (field (.ref it) 2 >>= _) _ _ s₁
    refine wpAny_bind (wpAny_field hit₁ rfl (x := .bool false) rfl ?_)
    show wpAny _ _ (field (.ref it) 1 >>= fun v => holding [Value.str y u] (eqBool v (.str y u)) >>= _) _ _ s₁
    refine wpAny_bind (wpAny_field hit₁ rfl (x := .str (Str.ofString "") t) rfl ?_)
    refine wpAny_bind (wpAny_holding (eqBool_str ?_))
    cases hq : (Str.ofString "" == y) with
    | false =>
      have hq' : (y == Str.ofString "") = false := by
        rw [beq_eq_false_iff_ne] at hq ⊢; exact fun e => hq e.symm
      show wpAny _ _ (ret (.str y u)) _ _ s₁
      exact wpAny_pure ⟨_, rfl, wpAny_pure (h1 hq')⟩
    | true =>
      have hq' : (y == Str.ofString "") = true := by
        rw [beq_iff_eq] at hq ⊢; exact hq.symm
      show wpAny _ _ (rule _ >>= fun _ => (field (.ref it) 0 >>= fun old => slotLetsGo "callable_iterator.__next__" old _ >>= fun _ => (setField (.ref it) 0 .none >>= fun _ => setField (.ref it) 1 .none >>= fun _ => setField (.ref it) 2 (.bool true))) >>= fun _ => Builtin.SmallTypes.stopIteration) _ _ s₁
      refine wpAny_bind (wpAny_rule (wpAny_bind (wpAny_bind (wpAny_field hit₁ rfl (x := .ref b) rfl (wpAny_bind ?_)))))
      unfold slotLetsGo
      refine wpAny_bind (borrows_bm hb₁ hf₁ hd ?_)
      rw [if_pos rfl]
      refine wpAny_pure ?_
      refine wpAny_bind (wpAny_setField_rec hit₁ (by simp) fun h₂ e₂ k₂ => ?_)
      refine wpAny_bind (wpAny_setField_rec e₂ (by simp) fun h₃ e₃ k₃ => ?_)
      refine wpAny_setField_rec e₃ (by simp) fun h₄ e₄ k₄ => ?_
      show wpAny _ _ (newExc (.type "StopIteration") [] >>= _) _ _ _
      refine wpAny_bind ?_
      simp only [newExc, newTuple]
      refine wpAny_bind (wpAny_newObj_type ?_ (by size_fits))
      refine wpAny_bind (m := firstArgMember _ _) (wpAny_of_eq (a := Value.none) (by first | rfl | (simp only [firstArgMember]; rfl)) ?_)
      refine wpAny_newObj_type ?_ (by size_fits)
      simp only [raiseNew]
      refine wpAny_bind (wpAny_handled ?_)
      rw [show A.in1.handled = none from hh]
      refine wpAny_bind (wpAny_pure (wpAny_throw ?_))
      refine wpAny_bind (wpAny_isInstance (T := "StopIteration") (b := true) ⟨_, Heap.get?_push_size _ rfl, rfl⟩ isSubtype_stop ?_)
      refine wpAny_pure (h2 hq' _ (Heap.get?_push_of_some _ (Heap.get?_push_of_some _ e₄)) fun b o hb e => ?_)
      exact Heap.get?_push_of_some _ (Heap.get?_push_of_some _ ((k₄.2 b hb).trans ((k₃.2 b hb).trans ((k₂.2 b hb).trans e))))

theorem ent_iter : entryFor table "iter" = some Builtin.«iter» := entryFor_of_tree (by kernel_rfl)
theorem kind_iter : builtinKind "iter" = none := by decide +kernel
theorem plain_iter : plainId "iter" = true := by decide +kernel
theorem args_iter2 (a b : Value) : argsOk "iter" ⟨[a, b], []⟩ := by unfold argsOk; kernel_rfl
theorem meth_call : ∃ x, typeLookup (.type "method") "__call__" = pure (some x) := ⟨.builtin "method.__call__", by rw [typeLookup_type, builtinLookup_eq_fast]; kernel_rfl⟩

theorem call_iter2 {b f self : Addr} {t : Tok} {Q : Value → Shared → Prop} (hb : s.heap.get? b = some (bmObj f self)) (h : Q (.ref s.heap.objs.size) { s with heap := s.heap.push (citObj b t) }) :
    wpAny (model prog w) A (call (.builtin "iter") [.ref b, .str (Str.ofString "") t]) Q E s := by
  obtain ⟨x, hx⟩ := meth_call
  have hT : s.TypeIs (.ref b) "method" := ⟨_, hb, rfl⟩
  refine Calls.call_function_entry kind_iter plain_iter ent_iter (args_iter2 _ _) ?_
  unfold Builtin.«iter»
  refine wpAny_bind (m := someArgs "iter" 1 2 _) (wpAny_pure ?_)
  show wpAny _ _ (specialOf (.ref b) "__call__" >>= _) _ _ s
  refine wpAny_bind (wpAny_specialOf hT hx ?_)
  show wpAny _ _ (rule _ >>= fun _ => newFields "callable_iterator" [.ref b, .str (Str.ofString "") t, .bool false] >>= _) _ _ s
  refine wpAny_bind (wpAny_rule (wpAny_bind ?_))
  unfold newFields
  refine wpAny_newObj_type ?_ (by size_fits)
  exact wpAny_pure ⟨_, rfl, h⟩
end
end Mine
end

section
theorem Mine.top_off_CM : True := by
  w_top off
  trivial
local macro_rules | `(tactic| omega) => `(tactic| first | lia | omega (config := {}))
open PySem PySem.W PyProof.Rows PySem.Spec PySem.Calls
namespace Mine

/-- the heap without what may change -/
noncomputable abbrev hid (s : Shared) (mu : List (Addr × Obj)) : Heap := hideAll s.heap (mu.map (·.1))

section
variable {h₀ : Heap} {s : Shared} {L : Addr} {m : Str → Option Value} {news mu : List (Addr × Obj)} {K : Frag} {p : Program} {loose : List Str} {mean : ExcName → Option Value} {mg mb : Str → Option Value}
theorem hid_keep (F : Fr h₀ L s.heap m) (N : News h₀ L s.heap news) (hm : ∀ p ∈ mu, p ∈ news) : ∀ b o, h₀.get? b = some o → (hid s mu).get? b = some o := fun b o e =>
  hideAll_get _ (F.keep b o e) fun q => by
    obtain ⟨p, hp, rfl⟩ := List.mem_map.mp q
    rw [(N p (hm p hp)).2.2] at e; cases e
theorem hid_frame (F : Fr h₀ L s.heap m) (N : News h₀ L s.heap news) (hm : ∀ p ∈ mu, p ∈ news) {h' : Heap} (k : Keeps (hid s mu) h') : Fr h₀ L h' m :=
  ⟨F.ns.at' fun o e => k _ _ (hideAll_get _ e fun q => by
      obtain ⟨p, hp, e2⟩ := List.mem_map.mp q
      exact (N p (hm p hp)).2.1 e2), fun b o e => k b o (hid_keep F N hm b o e), F.above⟩
theorem hid_news {mu' : List (Addr × Obj)} {rest : List (Addr × Obj)} (N : News h₀ L s.heap news) (hm : ∀ p ∈ mu, p ∈ news) (hr : ∀ p ∈ rest, p ∈ news ∧ ∀ q ∈ mu, p.1 ≠ q.1) {h' : Heap} (k : Keeps (hid s mu) h')
    (h2 : ∀ p ∈ mu', h'.get? p.1 = some p.2 ∧ ∃ q ∈ mu, q.1 = p.1) : News h₀ L h' (mu' ++ rest) := fun p hp => by
  rcases List.mem_append.mp hp with hp | hp
  · obtain ⟨e, q, hq, e2⟩ := h2 p hp
    exact ⟨e, e2 ▸ (N q (hm q hq)).2⟩
  · have z := N p (hr p hp).1
    refine ⟨k _ _ (hideAll_get _ z.1 fun q => ?_), z.2⟩
    obtain ⟨q', hq, e2⟩ := List.mem_map.mp q
    exact (hr p hp).2 q' hq e2.symm
end

section
variable {prog : Program} {w : World} {A : Around} {s : Shared} {p : Program} {loose : List Str} {mean : ExcName → Option Value} {mg mb : Str → Option Value} {K : Frag}
  {name qual : Str} {params : Arguments} {body : List Stmt} {scope : Scope} {dV kV doc pm cdv ct oc : Value} {an od : Option Addr} {osl : Array (Option Value)} {f : Addr} {args : List Value} {binds : List (Str × Value)}
  {Q E : Value → Shared → Prop} {R : Result → Shared → Prop}

theorem code_fnM (mu : List (Addr × Obj)) (hm : ∀ p ∈ mu, s.heap.get? p.1 = some p.2) (X : K.In (hid s mu)) (T : Top p loose mean mg mb (hid s mu))
    (ho : K.lookup f = some ⟨oc, od, .func (fnOf name qual params body scope dV kV doc pm an cdv ct), osl⟩) (hcd : codeIn K cdv qual = true) (hroom : A.depth < recursionLimit)
    (hbind : BindsTo s (fnOf name qual params body scope dV kV doc pm an cdv ct) ⟨args, []⟩ binds) (hloc : ∀ y ∈ binds, scope.names.lookup y.1 = some .local)
    (h : ∀ L' h₁, L' = s.heap.objs.size → Fr (hid s mu) L' h₁ (fun y => binds.reverse.lookup y) → News (hid s mu) L' h₁ mu → (∀ p ∈ mu, p.1 < L') →
      wpAny (model prog w) (A.deeper (envOf qual scope L' f cdv)) (execs body (envOf qual scope L' f cdv))
        (fun fl s' => R (.ok (.ret (match fl with | .ret v => v | _ => .none))) s') (fun _ _ => False) { s with heap := h₁, toks := s.toks + binds.length })
    (hco : scope.isCoroutine = false) (hgen : scope.isGenerator = false) (hk : scope.kind = .function) (hcell : ∀ x ∈ scope.names, x.2 ≠ .cell) :
    codeAny (model prog w) A (.call (.ref f) ⟨args, []⟩) R s := by
  have X' : K.In s.heap := fun a o e => of_hideAll _ (X a o e)
  refine codeAny_call_def (fd := fnOf name qual params body scope dV kV doc pm an cdv ct) (body := body) (binds := binds) hroom (X' _ _ ho) rfl (T.nolimit.keeps fun b o e => of_hideAll _ e) (codeRec_of X' hcd) rfl hbind hcell hloc (fun h₁ hns hk₁ => ?_) hco hgen hk
  exact wpAny_mono (h s.heap.objs.size h₁ rfl ⟨hns, fun b o e => hk₁ b o (of_hideAll _ e), Nat.le_of_eq (hideAll_size _ _)⟩
    (fun p hp => ⟨hk₁ _ _ (hm p hp), Nat.ne_of_lt (Heap.lt_size (hm p hp)), hideAll_none _ (List.mem_map_of_mem hp)⟩) fun p hp => Heap.lt_size (hm p hp)) (fun _ _ x => x) fun _ _ x => x.elim

theorem call_fnM (mu : List (Addr × Obj)) (hm : ∀ p ∈ mu, s.heap.get? p.1 = some p.2) (X : K.In (hid s mu)) (T : Top p loose mean mg mb (hid s mu))
    (ho : K.lookup f = some ⟨oc, od, .func (fnOf name qual params body scope dV kV doc pm an cdv ct), osl⟩) (hcd : codeIn K cdv qual = true) (hroom : A.depth < recursionLimit)
    (hbind : BindsTo s (fnOf name qual params body scope dV kV doc pm an cdv ct) ⟨args, []⟩ binds) (hloc : ∀ y ∈ binds, scope.names.lookup y.1 = some .local)
    (h : ∀ L' h₁, L' = s.heap.objs.size → Fr (hid s mu) L' h₁ (fun y => binds.reverse.lookup y) → News (hid s mu) L' h₁ mu → (∀ p ∈ mu, p.1 < L') →
      wpAny (model prog w) (A.deeper (envOf qual scope L' f cdv)) (execs body (envOf qual scope L' f cdv))
        (fun fl s' => Q (match fl with | .ret v => v | _ => .none) s') (fun _ _ => False) { s with heap := h₁, toks := s.toks + binds.length })
    (hco : scope.isCoroutine = false) (hgen : scope.isGenerator = false) (hk : scope.kind = .function) (hcell : ∀ x ∈ scope.names, x.2 ≠ .cell) :
    wpAny (model prog w) A (call (.ref f) args) Q E s :=
  wpAny_call (code_fnM (R := fun r s' => match r with | .ok (.ret v) => Q v s' | .ok _ => False | .error e => E e s') mu hm X T ho hcd hroom hbind hloc h hco hgen hk hcell)

theorem call_fnCM (mu : List (Addr × Obj)) (hm : ∀ p ∈ mu, s.heap.get? p.1 = some p.2) (X : K.In (hid s mu)) (T : Top p loose mean mg mb (hid s mu))
    (ho : K.lookup f = some ⟨oc, od, .func (fnOf name qual params body scope dV kV doc pm an cdv ct), osl⟩) (hcd : codeIn K cdv qual = true) (hroom : A.depth < recursionLimit)
    (hbind : BindsTo s (fnOf name qual params body scope dV kV doc pm an cdv ct) ⟨args, []⟩ binds)
    (hkind : ∀ n, ∀ x ∈ binds, scope.names.lookup x.1 = some .local ∨ (scope.names.lookup x.1 = some .cell ∧ ((cellsFrom n scope.names []).lookup x.1).isSome = true))
    (hnd : ((cellsFrom 0 scope.names []).map (·.1)).Nodup)
    (h : ∀ L' h₁ tk cells, L' = s.heap.objs.size → Fr (hid s mu) L' h₁ (bindL (envOfC qual scope L' f cdv).kindOf binds fun _ => none) → News (hid s mu) L' h₁ (cells ++ mu) → (∀ p ∈ mu, p.1 < L') →
      CellsAre (bindC (envOfC qual scope L' f cdv).kindOf binds fun _ => none) (cellsFrom (L' + 1) scope.names []) cells →
      wpAny (model prog w) (A.deeper (envOfC qual scope L' f cdv)) (execs body (envOfC qual scope L' f cdv))
        (fun fl s' => Q (match fl with | .ret v => v | _ => .none) s') (fun _ _ => False) { s with heap := h₁, toks := tk })
    (hco : scope.isCoroutine = false) (hgen : scope.isGenerator = false) (hk : scope.kind = .function) :
    wpAny (model prog w) A (call (.ref f) args) Q E s := by
  have X' : K.In s.heap := fun a o e => of_hideAll _ (X a o e)
  refine wpAny_call (codeAny_call_function (fd := fnOf name qual params body scope dV kV doc pm an cdv ct) (body := body) hroom (X' _ _ ho) rfl hco hgen rfl (codeRec_of X' hcd) (hbind _ _ _ _ ?_))
  refine wpAny_newFunctionEnv_cells hk (hkind _) fun env' he s' x => ?_
  subst he
  refine ⟨(T.nolimit.keeps fun b o e => of_hideAll _ e).keeps x.toInCall.keep, codeAny_func ?_⟩
  obtain ⟨h₁, tk, rfl, _⟩ := x.done
  have hk₁ := x.toInCall.keep
  obtain ⟨cells, NC, Y⟩ := Cl.news (h₀ := s.heap) (Nat.le_refl _) fun n c hm => ⟨x.cell n c (lookup_of_mem_nodup (cellsFrom_names scope.names 0 (s.heap.objs.size + 1) [] [] rfl ▸ hnd) hm), x.above n c hm⟩
  refine wpAny_mono (h s.heap.objs.size h₁ tk cells rfl ⟨x.toInCall.ns, fun b o e => hk₁ b o (of_hideAll _ e), Nat.le_of_eq (hideAll_size _ _)⟩ (fun p hp => ?_) (fun p hp => Heap.lt_size (hm p hp)) Y) (fun fl s' hl => hl) fun _ _ y => y.elim
  rcases List.mem_append.mp hp with hp | hp
  · refine ⟨(NC p hp).1, (NC p hp).2.1, ?_⟩
    cases q : (hid s mu).get? p.1 with
    | none => rfl
    | some o => have := of_hideAll _ q; rw [(NC p hp).2.2] at this; cases this
  · exact ⟨hk₁ _ _ (hm p hp), Nat.ne_of_lt (Heap.lt_size (hm p hp)), hideAll_none _ (List.mem_map_of_mem hp)⟩

/-- a def that closes over cells, made in the run -/
theorem code_fnX {cl : List (Str × Addr)} {fo : Obj} (mu : List (Addr × Obj)) (hm : ∀ p ∈ mu, s.heap.get? p.1 = some p.2) (hlim : s.heap.NoLimit)
    (hf : s.heap.get? f = some fo) (hfd : fo.data = .func (fnX name qual params body scope cl dV kV doc pm an cdv ct)) (hcd : s.heap.CodeRec cdv qual) (hroom : A.depth < recursionLimit)
    (hbind : BindsTo s (fnX name qual params body scope cl dV kV doc pm an cdv ct) ⟨args, []⟩ binds) (hloc : ∀ y ∈ binds, scope.names.lookup y.1 = some .local)
    (h : ∀ L' h₁, L' = s.heap.objs.size → Fr (hid s mu) L' h₁ (fun y => binds.reverse.lookup y) → News (hid s mu) L' h₁ mu → (∀ p ∈ mu, p.1 < L') →
      wpAny (model prog w) (A.deeper (envX qual scope L' f cdv cl)) (execs body (envX qual scope L' f cdv cl))
        (fun fl s' => R (.ok (.ret (match fl with | .ret v => v | _ => .none))) s') (fun _ _ => False) { s with heap := h₁, toks := s.toks + binds.length })
    (hco : scope.isCoroutine = false) (hgen : scope.isGenerator = false) (hk : scope.kind = .function) (hcell : ∀ x ∈ scope.names, x.2 ≠ .cell) :
    codeAny (model prog w) A (.call (.ref f) ⟨args, []⟩) R s := by
  refine codeAny_call_def (fd := fnX name qual params body scope cl dV kV doc pm an cdv ct) (body := body) (binds := binds) hroom hf hfd hlim hcd rfl hbind hcell hloc (fun h₁ hns hk₁ => ?_) hco hgen hk
  exact wpAny_mono (h s.heap.objs.size h₁ rfl ⟨hns, fun b o e => hk₁ b o (of_hideAll _ e), Nat.le_of_eq (hideAll_size _ _)⟩
    (fun p hp => ⟨hk₁ _ _ (hm p hp), Nat.ne_of_lt (Heap.lt_size (hm p hp)), hideAll_none _ (List.mem_map_of_mem hp)⟩) fun p hp => Heap.lt_size (hm p hp)) (fun _ _ x => x) fun _ _ x => x.elim
end
end Mine
end

section
theorem Mine.top_off_FA : True := by
  w_top off
  trivial
local macro_rules | `(tactic| omega) => `(tactic| first | lia | omega (config := {}))
open PySem PySem.W PyProof.Rows PySem.Spec PySem.Calls
namespace Mine
open PyProof.Rows.LCg (lst lst_snoc NsObj ns_obj fr_but news_but)

theorem fn_setattr : Slot "function" "__setattr__" "object.__setattr__" :=
  .of (owner := "object") (n := "__setattr__") (by rw [typeLookup_type, builtinLookup_eq_fast]; kernel_rfl) (by decide +kernel) (by decide +kernel) (by decide +kernel)
    (by first | exact .inl (by decide +kernel) | exact .inr (by decide +kernel)) (by rw [isSubtype_type]; kernel_rfl)
theorem fn_noread : typeLookup (.type "function") (Str.ofString "read") = pure none := by rw [typeLookup_type, builtinLookup_eq_fast]; kernel_rfl
theorem fn_mro : mroOf (.type "function") = pure [.type "function", .type "object"] := by first | rfl | (unfold mroOf; kernel_rfl)
theorem fn_ownset : classOwn (.type "function") (Str.ofString "__setattr__") = pure none := by first | rfl | kernel_rfl
theorem ob_ownset : ∃ x, classOwn (.type "object") (Str.ofString "__setattr__") = pure (some x) := ⟨.builtin "object.__setattr__", by first | rfl | kernel_rfl⟩

theorem fn_hasDict : typeHasDict (.type "function") = true := by decide +kernel

section
variable {prog : Program} {w : World} {A : Around} {E : Value → Shared → Prop} {s : Shared}
theorem set_read {f : Addr} {fd : FuncData} {v : Value} {Q : Unit → Shared → Prop} (hf : s.heap.get? f = some { cls := .type "function", data := .func fd })
    (h : ∀ h' tk d od, h'.get? f = some { cls := .type "function", dict := some d, data := .func fd } → h'.get? d = some od → NsObj od (fun y => if y = Str.ofString "read" then some v else none) → (∀ b o, b ≠ f → s.heap.get? b = some o → h'.get? b = some o) → d = s.heap.objs.size → Q () { s with heap := h', toks := tk }) :
    wpAny (model prog w) A (setAttr (.ref f) (Str.ofString "read") v) Q E s := by
  have hT : s.TypeIs (.ref f) "function" := ⟨_, hf, rfl⟩
  unfold setAttr
  refine wpAny_bind (m := mkText _) ?_
  unfold mkText
  refine wpAny_bind (wpAny_fresh (wpAny_pure ?_))
  refine wpAny_bind (wpAny_callSpecial?_slot (s := { s with toks := s.toks + 1 }) (name := Str.ofString "__setattr__") hT fn_setattr
    (wpAny_call_entry (s := { s with toks := s.toks + 1 }) fn_setattr hT PySem.F.entry_object_setattr ?_ (PySem.F.args_object_setattr_3 _ _ _)))
  have f1 := fn_mro
  have f2 := fn_ownset
  obtain ⟨x, f3⟩ := ob_ownset
  have f4 := fn_noread
  have f5 := fn_hasDict
  obtain ⟨hp, gg, dd, tk, os⟩ := s
  wp_walk
  refine wpAny_askSetting ?_
  have hne : f ≠ hp.objs.size := Nat.ne_of_lt (Heap.lt_size hf)
  have hd1 : ((hp.push { cls := Value.type "dict", data := Data.dict #[] }).update f fun o => { cls := o.cls, dict := some hp.objs.size, data := o.data, slots := o.slots }).get? hp.objs.size = some { cls := .type "dict", data := .dict #[] } :=
    ((Heap.SameBut.update ..).2 _ (Ne.symm hne)).trans (Heap.get?_push_size _ rfl)
  wp_walk using wpAny_loadPart_at hd1
  have hf1 : ((hp.push { cls := Value.type "dict", data := Data.dict #[] }).update f fun o => { cls := o.cls, dict := some hp.objs.size, data := o.data, slots := o.slots }).get? f = some { cls := .type "function", dict := some hp.objs.size, data := .func fd } :=
    Heap.get?_update_self _ (Heap.get?_push_of_some _ hf) rfl
  refine ⟨_, rfl, wpAny_pure (h _ _ hp.objs.size (Obj.putName (Str.ofString "read") _ _ v { cls := .type "dict", data := .dict #[] }) (((Heap.SameBut.update ..).2 _ hne).trans hf1) (Heap.get?_update_self _ hd1 rfl) ?_ (fun b o hb e => ?_) rfl)⟩
  · refine ⟨_, _, rfl, ?_, ?_⟩
    · intros e he
      have he' : e ∈ #[(⟨_, .str (Str.ofString "read") _, v⟩ : DictEntry)] := he
      rw [List.mem_singleton.mp (Array.mem_toList_iff.mpr he')]
      exact ⟨_, _, rfl⟩
    · intros name
      show _ = if name = Str.ofString "read" then some v else none
      show ((#[(⟨_, .str (Str.ofString "read") _, v⟩ : DictEntry)] : Array DictEntry).find? (fun e => e.key.isStr name)).map (·.val) = if name = Str.ofString "read" then some v else none
      by_cases hn : name = Str.ofString "read"
      · subst hn
        simp [Value.isStr]
      · rw [if_neg hn]
        have : (Value.str (Str.ofString "read") (tk + 1)).isStr name = false := by
          simp only [Value.isStr]
          exact beq_eq_false_iff_ne.mpr fun e => hn e.symm
        simp [Value.isStr] at this ⊢
        exact this
  · have hb2 : b ≠ hp.objs.size := Nat.ne_of_lt (Heap.lt_size e)
    exact ((Heap.SameBut.update ..).2 _ hb2).trans (((Heap.SameBut.update ..).2 _ hb).trans (Heap.get?_push_of_some _ e))

theorem fn_getattribute : Slot "function" "__getattribute__" "object.__getattribute__" :=
  .of (owner := "object") (n := "__getattribute__") (by rw [typeLookup_type, builtinLookup_eq_fast]; kernel_rfl) (by decide +kernel) (by decide +kernel) (by decide +kernel)
    (by first | exact .inl (by decide +kernel) | exact .inr (by decide +kernel)) (by rw [isSubtype_type]; kernel_rfl)
theorem fn_nogetattr : typeLookup (.type "function") (Str.ofString "__getattr__") = pure none := by rw [typeLookup_type, builtinLookup_eq_fast]; kernel_rfl

theorem meth_read {f d : Addr} {fd : FuncData} {od : Obj} {r : Addr} {m : Str → Option Value} {pl : Sem Bool} {Q : Value × List Value → Shared → Prop} (hf : s.heap.get? f = some { cls := .type "function", dict := some d, data := .func fd }) (hd : s.heap.get? d = some od)
    (hn : NsObj od m) (hm : m (Str.ofString "read") = some (.ref r)) (h : ∀ tk, Q (.ref r, []) { s with toks := tk }) : wpAny (model prog w) A (getMethod (.ref f) (Str.ofString "read") pl) Q E s := by
  have hT : s.TypeIs (.ref f) "function" := ⟨_, hf, rfl⟩
  unfold getMethod
  refine wpAny_bind (wpAny_specialOf hT fn_getattribute.lookup ?_)
  show wpAny _ _ (if (Manifest.canonical "object.__getattribute__" != "object.__getattribute__") = true then _ else _) Q E s
  rw [if_neg (by decide +kernel)]
  refine wpAny_bind (wpAny_specialOf hT fn_nogetattr ?_)
  refine wpAny_bind (wpAny_specialOf hT fn_noread ?_)
  refine wpAny_bind ?_
  unfold getAttr mkText
  refine wpAny_bind (wpAny_bind (wpAny_fresh (wpAny_pure ?_)))
  unfold getAttrBy
  refine wpAny_holding (wpAny_bind (wpAny_typeOf (s := { s with toks := s.toks + 1 }) hT ?_))
  refine wpAny_bind (wpAny_of_eq fn_getattribute.lookup ?_)
  show wpAny _ _ (getAttrByItsOwn (.ref f) (.str (Str.ofString "read") s.toks) (.type "function") (.builtin "object.__getattribute__") true false) _ _ _
  unfold getAttrByItsOwn
  refine wpAny_bind (m := hookBefore _) (wpAny_pure (wpAny_bind (wpAny_attempt (wpAny_holding ?_))))
  show wpAny _ _ (boundAndCalled (.builtin "object.__getattribute__") (.ref f) (.str (Str.ofString "read") s.toks)) _ _ _
  unfold boundAndCalled
  simp only [fn_getattribute.bind]
  refine wpAny_bind (wpAny_pure ?_)
  refine wpAny_call_entry (s := { s with toks := s.toks + 1 }) fn_getattribute hT PySem.F.entry_object_getattribute ?_ (PySem.F.args_object_getattribute_2 _ _)
  have hns : s.heap.Ns d m := hn.ns hd
  have f4 := fn_noread
  obtain ⟨hp, gg, dd, tk, os⟩ := s
  have n1 : (⟨hp, gg, dd, tk + 1, os⟩ : Shared).heap.Ns d m := hns
  wp_walk using wpAny_nsGet n1
  rw [hm]
  refine wpAny_bind (wpAny_rule (wpAny_pure ?_))
  exact wpAny_pure ⟨_, rfl, wpAny_pure (wpAny_pure (h _))⟩

theorem set_read_K {h₀ : Heap} {L f : Addr} {m : Str → Option Value} {news : List (Addr × Obj)} {g : Obj → List (Addr × Obj)} {fd : FuncData} {v : Value} {Q : Unit → Shared → Prop} (F : Fr h₀ L s.heap m) (N : News h₀ L s.heap news) (U : UpdF f { cls := .type "function", data := .func fd } news g)
    (h : ∀ h' tk d od, Fr h₀ L h' m → News h₀ L h' ((d, od) :: g { cls := .type "function", dict := some d, data := .func fd }) → NsObj od (fun y => if y = Str.ofString "read" then some v else none) → (∀ p ∈ news, p.1 < d) → Q () { s with heap := h', toks := tk }) :
    wpAny (model prog w) A (setAttr (.ref f) (Str.ofString "read") v) Q E s := by
  obtain ⟨own, rest, rfl, hg, h1, h2⟩ := U.split
  have hmem := N (f, _) (List.mem_append_right _ (.head _))
  refine set_read hmem.1 fun h' tk d od e1 e2 e3 e4 e5 => ?_
  have hdn : h₀.get? d = none := by rw [e5]; exact next_is_new F
  have hLd : L ≠ d := by rw [e5]; exact Nat.ne_of_lt F.ns.lt
  refine h h' tk d od ⟨F.ns.at' fun o q => e4 _ o (Ne.symm hmem.2.1) q, fun b o q => e4 b o (fun q' => by rw [q', hmem.2.2] at q; cases q) (F.keep b o q), F.above⟩ (fun p hp => ?_) e3 (fun p hp => by rw [e5]; exact Heap.lt_size (N p hp).1)
  rcases List.mem_cons.mp hp with rfl | hp
  · exact ⟨e2, Ne.symm hLd, hdn⟩
  · rw [hg] at hp
    rcases List.mem_append.mp hp with hp | hp
    · have z := N p (List.mem_append_left _ hp)
      exact ⟨e4 _ _ (h1 p hp) z.1, z.2⟩
    · rcases List.mem_cons.mp hp with rfl | hp
      · exact ⟨e1, hmem.2⟩
      · have z := N p (List.mem_append_right _ (.tail _ hp))
        exact ⟨e4 _ _ (h2 p hp) z.1, z.2⟩
end
end Mine
end

section
theorem Mine.top_off_LD : True := by
  w_top off
  trivial
local macro_rules | `(tactic| omega) => `(tactic| first | lia | omega (config := {}))
open PySem PySem.W PyProof.Rows PySem.Spec PySem.Calls
namespace Mine
open PyProof.Rows.LCg (lst lst_snoc NsObj ns_obj fr_but news_but)

/-- the object that keeps where the reading stands -/
noncomputable abbrev atObj (pos : Int) (tp : Tok) (np : Nat) : Obj := W.listOf #[.int pos tp] np

/-- what the stream's read does -/
noncomputable def ReadC (prog : Program) (w : World) (rd al : Addr) (x : Str) (fix : List (Addr × Obj)) : Prop :=
  ∀ (A : Around) (s₁ : Shared) (Q E : Value → Shared → Prop) (pos : Int) (tp u : Tok) (np : Nat) (p : Program) (loose : List Str) (mean : ExcName → Option Value) (mg mb : Str → Option Value),
    A.handled = none → A.depth ≤ 500 → A.units ≤ 3000 → (hd.heap_39 w.params).In (hid s₁ ((al, atObj pos tp np) :: fix)) → Top p loose mean mg mb (hid s₁ ((al, atObj pos tp np) :: fix)) →
    (∀ p ∈ (al, atObj pos tp np) :: fix, s₁.heap.get? p.1 = some p.2) → 0 ≤ pos → pos ≤ 200 →
    (∀ h' tk tp' np' y ty, Keeps (hid s₁ ((al, atObj pos tp np) :: fix)) h' → (∀ p ∈ fix, h'.get? p.1 = some p.2) → h'.get? al = some (atObj (pos + (y.length : Int)) tp' np') → y = Txt.slice x (some pos) (some (pos + 1)) →
      Q (.str y ty) { s₁ with heap := h', toks := tk }) →
    wpAny (model prog w) A (call (.ref rd) [.int 1 u]) Q E s₁

/-- the lexer's places -/
structure LexA where
  xi : Addr
  dx : Addr
  pb : Addr
  fs : Addr
  ds : Addr
  al : Addr
  rd : Addr
  t1 : Tok
  t2 : Tok
  t3 : Tok
  t4 : Tok
  tw : Tok
  fd : FuncData
  od : Obj
  fix : List (Addr × Obj)

noncomputable abbrev lexDict (w : World) (l : LexA) (line : Int) (tl : Tok) : Obj :=
  dictOf [⟨PyData.keyHash w.params (Str.ofString "lineno"), .str (Str.ofString "lineno") l.t1, .int line tl⟩, ⟨PyData.keyHash w.params (Str.ofString "instream"), .str (Str.ofString "instream") l.t2, .ref l.fs⟩,
    ⟨PyData.keyHash w.params (Str.ofString "whitespace"), .str (Str.ofString "whitespace") l.t3, .str (Str.ofString "\n\t\r ") l.tw⟩, ⟨PyData.keyHash w.params (Str.ofString "pushback"), .str (Str.ofString "pushback") l.t4, .ref l.pb⟩] 4
noncomputable abbrev fnObj (fd : FuncData) (d : Addr) : Obj := { cls := .type "function", dict := some d, data := .func fd }

theorem ne_lex : Nonempty LexA := ⟨⟨default, default, default, default, default, default, default, default, default, default, default, default, default, default, default⟩⟩
structure LexA.Ok (prog : Program) (w : World) (x : Str) (l : LexA) : Prop where
  read : ReadC prog w l.rd l.al x l.fix
  od : NsObj l.od (fun y => if y = Str.ofString "read" then some (.ref l.rd) else none)
  rd : ∃ o fd, (l.rd, o) ∈ l.fix ∧ o.data = .func fd
  ord : (@LT.lt Nat _ l.al l.fs) ∧ (@LT.lt Nat _ l.fs l.ds) ∧ (@LT.lt Nat _ l.ds l.dx) ∧ (@LT.lt Nat _ l.dx l.xi) ∧ (@LT.lt Nat _ l.xi l.pb)
  fix : ∀ p ∈ l.fix, (@LT.lt Nat _ p.1 l.fs) ∧ (@Ne Nat p.1 l.al)

/-- all that belongs to the lexer -/
noncomputable def LexA.objs (w : World) (l : LexA) (line : Int) (tl : Tok) (vs : List Value) (np : Nat) (pos : Int) (tp : Tok) (na : Nat) : List (Addr × Obj) :=
  (l.xi, instObj 80 l.dx) :: (l.dx, lexDict w l line tl) :: (l.pb, W.listOf vs.toArray np) :: (l.fs, fnObj l.fd l.ds) :: (l.ds, l.od) :: (l.al, atObj pos tp na) :: l.fix
end Mine
end

section
theorem Mine.top_off_LX : True := by
  w_top off
  trivial
local macro_rules | `(tactic| omega) => `(tactic| first | lia | omega (config := {}))
open PySem PySem.W PyProof.Rows PySem.Spec PySem.Calls
namespace Mine
open PyProof.Rows.LCg (lst lst_snoc NsObj ns_obj fr_but news_but)
theorem k_filledB : (hd.heap_39 = hd.heap_39) ∧ (PySem.Challenge.rw_re0068_01 = PySem.Challenge.rw_re0068_01) := by
  k_fill
  exact ⟨rfl, rfl⟩

theorem lexer_fin {prog : Program} {w : World} {s : Shared} {Q : Value → Shared → Prop} {x : Str} {h₀ h₂ hb h₉ : Heap} {L L₃ xi dx ds fs cl rd cr al ca ct pb : Addr} {m m₉ : Str → Option Value} {od ocl ord ocr oa ot o86 : Obj} {fd fr : FuncData} {tp tl t1 t2 t3 t4 tw : Tok} {na tk : Nat}
    (F₂ : Fr h₀ L h₂ m) (N₂ : News h₀ L h₂ [(xi, instObj 80 dx), (dx, emptyDict), (ds, od), (fs, fnObj fd ds), (cl, ocl), (rd, ord), (cr, ocr), (al, atObj 0 tp na), (ca, oa), (ct, ot), (86, o86)])
    (l₂ : ∀ p ∈ [(ds, od), (fs, fnObj fd ds), (cl, ocl), (rd, ord), (cr, ocr), (al, atObj 0 tp na), (ca, oa), (ct, ot), (86, o86)], p.1 < dx) (l₃ : @LT.lt Nat _ dx xi) (hhb : hideAll h₂ [xi, dx] = hb)
    (F₉ : Fr hb L₃ h₉ m₉) (N₉ : News hb L₃ h₉ [(pb, W.listOf #[] 0), (xi, instObj 80 dx), (dx, dictOf [⟨PyData.keyHash w.params (Str.ofString "lineno"), .str (Str.ofString "lineno") t1, .int 1 tl⟩, ⟨PyData.keyHash w.params (Str.ofString "instream"), .str (Str.ofString "instream") t2, .ref fs⟩,
      ⟨PyData.keyHash w.params (Str.ofString "whitespace"), .str (Str.ofString "whitespace") t3, .str (Str.ofString "\n\t\r ") tw⟩, ⟨PyData.keyHash w.params (Str.ofString "pushback"), .str (Str.ofString "pushback") t4, .ref pb⟩] 4)])
    (l₉ : (@LT.lt Nat _ xi pb) ∧ @LT.lt Nat _ dx pb) (hod : NsObj od (fun y => if y = Str.ofString "read" then some (.ref rd) else none)) (hrd : ord.data = .func fr)
    (lo : (@LT.lt Nat _ fs ds) ∧ (@LT.lt Nat _ rd fs) ∧ (@LT.lt Nat _ cr rd) ∧ (@LT.lt Nat _ al cr) ∧ (@LT.lt Nat _ ca al) ∧ (@LT.lt Nat _ ct al) ∧ (@LT.lt Nat _ s.heap.objs.size ct) ∧ (@LT.lt Nat _ s.heap.objs.size ca))
    (hread : ReadC prog w rd al x [(rd, ord), (cr, ocr), (ca, oa), (ct, ot)])
    (ret : ∀ h' tk (l : LexA) tl tp na, Keeps h₀ h' → l.Ok prog w x → (∀ p ∈ l.objs w 1 tl [] 0 0 tp na, h'.get? p.1 = some p.2 ∧ @LT.lt Nat _ s.heap.objs.size p.1) → h'.get? 86 = some o86 → Q (.ref l.xi) { s with heap := h', toks := tk }) :
    Q (.ref xi) { s with heap := h₉, toks := tk } := by
  have up : ∀ b o, h₂.get? b = some o → b ≠ xi → b ≠ dx → h₉.get? b = some o := fun b o e h1 h2 => F₉.keep b o (hhb ▸ hideAll_get _ e (fun q => by
    rcases List.mem_cons.mp q with q | q
    · exact h1 q
    · exact h2 (List.mem_singleton.mp q)))
  have up2 := fun p (hp : p ∈ _) => up p.1 p.2 (N₂ p (.tail _ (.tail _ hp))).1 (Nat.ne_of_lt (Nat.lt_trans (l₂ p hp) l₃)) (Nat.ne_of_lt (l₂ p hp))
  have lds : @LT.lt Nat _ ds dx := l₂ _ (.head _)
  refine ret h₉ tk ⟨xi, dx, pb, fs, ds, al, rd, t1, t2, t3, t4, tw, fd, od, [(rd, ord), (cr, ocr), (ca, oa), (ct, ot)]⟩ tl tp na (fun b o e => up b o (F₂.keep b o e) (fun q => by rw [q, (N₂ _ (.head _)).2.2] at e; cases e) (fun q => by rw [q, (N₂ _ (.tail _ (.head _))).2.2] at e; cases e)) ⟨hread, hod, ⟨_, _, .head _, hrd⟩, ?_, ?_⟩ ?_ (up2 _ (.tail _ (.tail _ (.tail _ (.tail _ (.tail _ (.tail _ (.tail _ (.tail _ (.head _))))))))))
  · dsimp only
    refine ⟨?_, ?_, ?_, ?_, ?_⟩ <;> omega
  · refine List.forall_mem_cons.mpr ⟨⟨?_, ?_⟩, List.forall_mem_cons.mpr ⟨⟨?_, ?_⟩, List.forall_mem_cons.mpr ⟨⟨?_, ?_⟩, List.forall_mem_cons.mpr ⟨⟨?_, ?_⟩, List.forall_mem_nil _⟩⟩⟩⟩ <;> dsimp only <;> omega
  · refine List.forall_mem_cons.mpr ⟨⟨(N₉ _ (.tail _ (.head _))).1, ?_⟩, List.forall_mem_cons.mpr ⟨⟨(N₉ _ (.tail _ (.tail _ (.head _)))).1, ?_⟩, List.forall_mem_cons.mpr ⟨⟨(N₉ _ (.head _)).1, ?_⟩, List.forall_mem_cons.mpr ⟨⟨up2 _ (.tail _ (.head _)), ?_⟩, List.forall_mem_cons.mpr ⟨⟨up2 _ (.head _), ?_⟩,
      List.forall_mem_cons.mpr ⟨⟨up2 _ (.tail _ (.tail _ (.tail _ (.tail _ (.tail _ (.head _)))))), ?_⟩, List.forall_mem_cons.mpr ⟨⟨up2 _ (.tail _ (.tail _ (.tail _ (.head _)))), ?_⟩, List.forall_mem_cons.mpr ⟨⟨up2 _ (.tail _ (.tail _ (.tail _ (.tail _ (.head _))))), ?_⟩,
      List.forall_mem_cons.mpr ⟨⟨up2 _ (.tail _ (.tail _ (.tail _ (.tail _ (.tail _ (.tail _ (.head _))))))), ?_⟩, List.forall_mem_cons.mpr ⟨⟨up2 _ (.tail _ (.tail _ (.tail _ (.tail _ (.tail _ (.tail _ (.tail _ (.head _)))))))), ?_⟩, List.forall_mem_nil _⟩⟩⟩⟩⟩⟩⟩⟩⟩⟩
    all_goals dsimp only
    all_goals omega
local macro_rules | `(tactic| walk_at "setAttr ref") => `(tactic| (k_dflt (refine' set_read_K ?F ?N ?U ?_; (case F => k_asm); (case N => k_asm); (case U => k_updF)); intro h' tk' d' od' F' N' hd' l1; (try dsimp only at N'); (try k_lt l1)))
theorem lexer_spec {prog : Program} {w : World} {s : Shared} {p : Program} {loose : List Str} {mean : ExcName → Option Value} {mg mb : Str → Option Value} {Q E : Value → Shared → Prop}
    {x : Str} {t : Tok} (hxl : x.length ≤ 100) (hP : s.heap.get? 86 = some (tabObj #[])) (C : CodeHd (hid s [(86, tabObj #[])]) 90 86)
    (X : (hd.heap_39 w.params).In (hid s [(86, tabObj #[])])) (T : Top p loose mean mg mb (hid s [(86, tabObj #[])]))
    (ret : ∀ h' tk (l : LexA) tl tp na, Keeps (hid s [(86, tabObj #[])]) h' → l.Ok prog w x → (∀ p ∈ l.objs w 1 tl [] 0 0 tp na, h'.get? p.1 = some p.2 ∧ @LT.lt Nat _ s.heap.objs.size p.1) → GrownAt 86 h' → Q (.ref l.xi) { s with heap := h', toks := tk }) :
    wpAny (model prog w) (AM 5) (call (.ref 91) [.str x t]) Q E s := by
  revert prog w s p loose mean mg mb Q E x t hxl hP C X T ret
  show ∀ prog w s p loose mean mg mb Q E x t hxl hP C X T ret, _
  intro prog w s p loose mean mg mb Q E x t
  intros hxl hP C X T ret
  k_dflt (refine' call_fnCM [(86, tabObj #[])] (List.forall_mem_cons.mpr ⟨hP, List.forall_mem_nil _⟩) X T ?ho ?hcd ?hr ?hb ?hk ?hn ?_ ?c1 ?c2 ?c3; (case ho => k_is); (case hcd => k_is); (case hr => decide); (case hb => exact BindsTo.of_eq rfl); (case hk => intro n x hx; rw [List.mem_singleton.mp hx]; exact .inr ⟨rfl, rfl⟩); (case hn => decide); (case c1 => exact rfl); (case c2 => exact rfl); (case c3 => exact rfl))
  intro L' h' tk' cells hL' F' N' l0 Y'
  obtain ⟨oa, ot, hr1, hoa, hot⟩ := CellsAre.two Y'
  revert oa ot hr1 hoa hot
  intro oa ot hr1 hoa hot
  obtain rfl := hr1
  replace hoa : oa.data = .cell none := hoa
  replace hot : ot.data = .cell (some (.str x t)) := hot
  replace F' : Fr (hid s [(86, tabObj #[])]) L' h' (fun _ => none) := F'
  have l1 : @LT.lt Nat _ 86 L' := l0 _ (.head _)
  clear Y' l0
  generalize hid s [(86, tabObj #[])] = h₀ at *
  have l9 : @Eq Nat L' s.heap.objs.size := hL'
  simp only [List.cons_append, List.nil_append] at N'
  (try dsimp only)
  skip
  k_steps
  (rename Fr _ _ _ _ => lF'); (rename News _ _ _ _ => lN')
  refine wpAny_call ?_
  k_dflt (refine' make_K lF' lN' (X.keeps lF'.keep) ?m ?i ?f ?_; (case m => k_is); (case i => k_is); (case f => k_is))
  clear lF'
  intro xi dx h₂ F₂ N₂ l₂ l₃
  have X₂ := X.keeps (hid_keep (s := { s with heap := h₂, toks := 0 }) (mu := [(xi, instObj 80 dx), (dx, emptyDict)]) F₂ N₂ (by lcg_sub))
  have T₂ := T.keeps (hid_keep (s := { s with heap := h₂, toks := 0 }) (mu := [(xi, instObj 80 dx), (dx, emptyDict)]) F₂ N₂ (by lcg_sub))
  k_dflt (refine' code_fnM [(xi, instObj 80 dx), (dx, emptyDict)] (List.forall_mem_cons.mpr ⟨(N₂ _ (.head _)).1, List.forall_mem_cons.mpr ⟨(N₂ _ (.tail _ (.head _))).1, List.forall_mem_nil _⟩⟩) X₂ T₂ ?ho ?hcd ?hr ?hb ?hl ?_ ?c1 ?c2 ?c3 ?c4; (case ho => k_is); (case hcd => k_is); (case hr => exact Nat.le_of_ble_eq_true rfl); (case hb => exact BindsTo.of_eq rfl); (case hl => exact locs rfl); (case c1 => exact rfl); (case c2 => exact rfl); (case c3 => exact rfl); (case c4 => decide))
  intro L₃ h₃ hL₃ F₃ N₃ l₄
  have l5 : @LT.lt Nat _ dx xi := l₃
  replace X₂ : (hd.heap_39 w.params).In (hideAll h₂ [xi, dx]) := X₂
  replace T₂ : Top p loose mean mg mb (hideAll h₂ [xi, dx]) := T₂
  replace F₃ : Fr (hideAll h₂ [xi, dx]) L₃ h₃ _ := F₃
  replace N₃ : News (hideAll h₂ [xi, dx]) L₃ h₃ [(xi, instObj 80 dx), (dx, emptyDict)] := N₃
  generalize hhb : hideAll h₂ [xi, dx] = hb at *
  clear lN' X T
  (try dsimp only)
  skip
  k_steps
  (rename Fr _ _ _ _ => F₉); (rename News _ _ _ _ => N₉)
  refine ⟨rfl, ?_⟩
  refine lexer_fin (s := s) F₂ N₂ l₂ l5 hhb F₉ N₉ (by assumption) (by assumption) rfl (by refine ⟨?_, ?_, ?_, ?_, ?_, ?_, ?_, ?_⟩ <;> omega) ?_ (fun h' tk l tl tp na z1 z2 z3 z4 => ret h' tk l tl tp na z1 z2 z3 ⟨_, z4⟩)
  intro A s₁ Q₁ E₁ pos tp u np p₁ loose₁ mean₁ mg₁ mb₁ hh hdp hun X₁ T₁ hget hp0 hp1 ret₁
  clear ret N₉ F₉ N₂ F₂ l₂ T₂ X₂
  have hrdo := hget _ (.tail _ (.head _))
  have hcro := hget _ (.tail _ (.tail _ (.head _)))
  have hlt9 := fun q (hq : q ∈ _) => Heap.lt_size (hget q hq)
  refine wpAny_call ?_
  k_dflt (refine' code_fnX _ hget (T₁.nolimit.keeps fun b o e => of_hideAll _ e) hrdo rfl ?hcd ?hr ?hb ?hl ?_ ?c1 ?c2 ?c3 ?c4; (case hcd => exact ⟨_, _, _, _, rfl, hcro, by assumption, by assumption⟩); (case hr => exact Nat.lt_of_le_of_lt hdp (by decide)); (case hb => exact BindsTo.of_eq rfl); (case hl => exact locs rfl); (case c1 => exact rfl); (case c2 => exact rfl); (case c3 => exact rfl); (case c4 => decide))
  intro L₆ h₆ hL₆ F₆ N₆ l₆
  generalize hid s₁ _ = hb₆ at *
  (try dsimp only)
  skip
  k_steps
  (rename Fr _ _ _ _ => F₇); (rename News _ _ _ _ => N₇)
  exact ret₁ _ _ _ _ _ _ F₇.keep (List.forall_mem_cons.mpr ⟨(N₇ _ (.tail _ (.head _))).1, List.forall_mem_cons.mpr ⟨(N₇ _ (.tail _ (.tail _ (.head _)))).1, List.forall_mem_cons.mpr ⟨(N₇ _ (.tail _ (.tail _ (.tail _ (.head _))))).1, List.forall_mem_cons.mpr ⟨(N₇ _ (.tail _ (.tail _ (.tail _ (.tail _ (.head _)))))).1, List.forall_mem_nil _⟩⟩⟩⟩) (N₇ _ (.head _)).1 rfl
end Mine
end

section
theorem Mine.top_off_RC : True := by
  w_top off
  trivial
local macro_rules | `(tactic| walk_at "idle") => `(tactic| skip)
local macro_rules | `(tactic| omega) => `(tactic| first | lia | omega (config := {}))
open PySem PySem.W PyProof.Rows PySem.Spec PySem.Calls
namespace Mine
open PyProof.Rows.LCg (lst lst_snoc NsObj ns_obj fr_but news_but)
theorem k_filledC : (hd.heap_39 = hd.heap_39) ∧ (PySem.Challenge.rw_re0068_01 = PySem.Challenge.rw_re0068_01) := by
  k_fill
  exact ⟨rfl, rfl⟩

/-- the lexer's six objects -/
noncomputable abbrev LexA.six (w : World) (l : LexA) (line : Int) (tl : Tok) (vs : List Value) (np : Nat) (pos : Int) (tp : Tok) (na : Nat) : List (Addr × Obj) :=
  [(l.xi, instObj 80 l.dx), (l.dx, lexDict w l line tl), (l.pb, W.listOf vs.toArray np), (l.fs, fnObj l.fd l.ds), (l.ds, l.od), (l.al, atObj pos tp na)]
theorem objs_eq {w : World} {l : LexA} {line : Int} {tl : Tok} {vs : List Value} {np : Nat} {pos : Int} {tp : Tok} {na : Nat} : l.objs w line tl vs np pos tp na = l.six w line tl vs np pos tp na ++ l.fix := rfl

open PySem.Builtin.Str in
theorem char_out {x : Str} : Txt.slice x (some (x.length : Int)) (some ((x.length : Int) + 1)) = Str.empty := by
  have e1 : strSliceIndices (some (x.length : Int)) (some ((x.length : Int) + 1)) 1 x.length = strSliceIndices (some (x.length : Int)) (some (x.length : Int)) 1 x.length := by
    have h1 : ¬ ((x.length : Int) < 0) := by omega
    have h3 : ¬ ((x.length : Int) + 1 < 0) := by omega
    have h2 : (1 : Int) > 0 := by decide
    simp only [strSliceIndices, h1, h2, h3, if_false, if_true, Int.min_self, Int.min_eq_right (show (x.length : Int) ≤ (x.length : Int) + 1 by omega)]
  have e2 : Txt.slice x (some (x.length : Int)) (some ((x.length : Int) + 1)) = Txt.slice x (some (x.length : Int)) (some (x.length : Int)) := by
    unfold Txt.slice
    rw [e1]
  have hl : x.length = x.cps.toList.length := by simp [Str.length]
  rw [e2, beq_iff_eq.mp (slice_closes ⟨by omega, Int.le_refl _, by rw [hl]; exact Int.le_refl _⟩)]
  simp [Str.empty]
theorem char_in {x : Str} {i : Nat} {c : Nat} (h : x.cps[i]? = some c) : Txt.slice x (some (i : Int)) (some ((i : Int) + 1)) = ⟨#[c]⟩ := by
  have hi : i < x.cps.size := by
    rcases Nat.lt_or_ge i x.cps.size with q | q
    · exact q
    · rw [Array.getElem?_eq_none q] at h; cases h
  have hc : x.cps.toList[i]? = some c := by simpa using h
  rw [beq_iff_eq.mp (slice_closes ⟨by omega, by omega, by rw [Array.length_toList]; omega⟩)]
  have e1 : ((i : Int) + 1 - (i : Int)).toNat = 1 := by omega
  have e2 : ((i : Int)).toNat = i := by omega
  rw [e1, e2, List.take_one, List.head?_drop, hc]
  rfl
theorem char_len {x : Str} {pos : Int} (h0 : 0 ≤ pos) (h1 : pos ≤ x.length) : (Txt.slice x (some pos) (some (pos + 1))).length ≤ 1 := by
  by_cases h : pos = x.length
  · rw [h, char_out]; exact Nat.zero_le _
  · have hx : pos.toNat < x.cps.size := by have : x.length = x.cps.size := rfl; omega
    have e : pos = (pos.toNat : Int) := by omega
    rw [e, char_in (Array.getElem?_eq_getElem hx)]
    exact Nat.le_refl 1

section
variable {prog : Program} {w : World} {A : Around} {s : Shared} {p : Program} {loose : List Str} {mean : ExcName → Option Value} {mg mb : Str → Option Value} {Q E : Value → Shared → Prop} {hb ho : Heap} {L : Addr} {m : Str → Option Value} {news : List (Addr × Obj)} {l : LexA} {x : Str}

theorem use_read {pos : Int} {tp u : Tok} {np : Nat} {g : Obj → List (Addr × Obj)} (hl : l.Ok prog w x) (F : Fr hb L s.heap m) (N : News hb L s.heap news) (U : UpdF l.al (atObj pos tp np) news g)
    (hfx : ∀ p ∈ l.fix, hb.get? p.1 = some p.2) (hho : ∀ b o, ho.get? b = some o → hb.get? b = some o ∧ ∀ p ∈ l.fix, p.1 ≠ b) (X : (hd.heap_39 w.params).In ho) (T : Top p loose mean mg mb ho)
    (hh : A.handled = none) (hdp : A.depth ≤ 500) (hun : A.units ≤ 3000) (hp0 : 0 ≤ pos) (hp1 : pos ≤ 200)
    (ret : ∀ h' tk tp' np' y ty, Fr hb L h' m → News hb L h' (g (atObj (pos + (y.length : Int)) tp' np')) → y = Txt.slice x (some pos) (some (pos + 1)) → Q (.str y ty) { s with heap := h', toks := tk }) :
    wpAny (model prog w) A (call (.ref l.rd) [.int 1 u]) Q E s := by
  obtain ⟨own, rest, rfl, hg, h1, h2⟩ := U.split
  have hal := N (l.al, _) (List.mem_append_right _ (.head _))
  have hfl : ∀ p ∈ l.fix, p.1 ≠ l.al := fun p hp => (hl.fix p hp).2
  have hk : ∀ b o, ho.get? b = some o → (hid s ((l.al, atObj pos tp np) :: l.fix)).get? b = some o := fun b o e => hideAll_get _ (F.keep _ _ (hho b o e).1) fun q => by
    obtain ⟨p, hp, e2⟩ := List.mem_map.mp q
    rcases List.mem_cons.mp hp with rfl | hp
    · have := (hho b o e).1
      rw [← e2, hal.2.2] at this; cases this
    · exact (hho b o e).2 p hp e2
  have hfN : ∀ p ∈ own ++ rest, ∀ q ∈ l.fix, q.1 ≠ p.1 := fun p hp q hq e => by
    have z := hfx q hq
    have : hb.get? p.1 = none := by
      rcases List.mem_append.mp hp with hp | hp
      · exact (N p (List.mem_append_left _ hp)).2.2
      · exact (N p (List.mem_append_right _ (.tail _ hp))).2.2
    rw [e, this] at z; cases z
  refine hl.read A s Q E pos tp u np p loose mean mg mb hh hdp hun (X.keeps hk) (T.keeps hk) (List.forall_mem_cons.mpr ⟨hal.1, fun p hp => F.keep _ _ (hfx p hp)⟩) hp0 hp1 fun h' tk tp' np' y ty kp kf ka ey => ?_
  have kp2 : ∀ b o, b ≠ l.al → (∀ p ∈ l.fix, p.1 ≠ b) → s.heap.get? b = some o → h'.get? b = some o := fun b o hb1 hb2 e => kp b o (hideAll_get _ e fun q => by
    obtain ⟨p, hp, e2⟩ := List.mem_map.mp q
    rcases List.mem_cons.mp hp with rfl | hp
    · exact hb1 e2.symm
    · exact hb2 p hp e2)
  have hLf : ∀ p ∈ l.fix, p.1 ≠ L := fun p hp e => by
    have := Heap.get?_none_of_le (h := hb) (Nat.le_trans F.above (Nat.le_refl L))
    have z := hfx p hp
    rw [e, this] at z; cases z
  have F' : Fr hb L h' m := ⟨F.ns.at' fun o e => kp2 _ o (Ne.symm hal.2.1) hLf e, fun b o e => by
    by_cases hq : ∃ p ∈ l.fix, p.1 = b
    · obtain ⟨p, hp, rfl⟩ := hq
      have z := hfx p hp
      rw [e] at z; cases z
      exact kf p hp
    · exact kp2 b o (fun q => by rw [q, hal.2.2] at e; cases e) (fun p hp e2 => hq ⟨p, hp, e2⟩) (F.keep b o e), F.above⟩
  refine ret h' tk tp' np' y ty F' (fun p hp => ?_) ey
  rw [hg] at hp
  rcases List.mem_append.mp hp with hp | hp
  · have z := N p (List.mem_append_left _ hp)
    exact ⟨kp2 _ _ (h1 p hp) (fun q hq => hfN p (List.mem_append_left _ hp) q hq) z.1, z.2⟩
  · rcases List.mem_cons.mp hp with rfl | hp
    · exact ⟨ka, hal.2⟩
    · have z := N p (List.mem_append_right _ (.tail _ hp))
      exact ⟨kp2 _ _ (h2 p hp) (fun q hq => hfN p (List.mem_append_right _ hp) q hq) z.1, z.2⟩
end

local macro_rules | `(tactic| walk_at $k:str) => if ["call ref", "getMethod ref", "callWith ref", "And"].contains k.getString then `(tactic| (refine hold_of ?_)) else Lean.Macro.throwUnsupported

theorem six_objs {w : World} {l : LexA} {hb h : Heap} {L : Addr} {line : Int} {tl : Tok} {vs : List Value} {np : Nat} {pos : Int} {tp : Tok} {na : Nat} {rest : List (Addr × Obj)}
    (N : News hb L h ((l.xi, instObj 80 l.dx) :: (l.dx, lexDict w l line tl) :: (l.pb, W.listOf vs.toArray np) :: (l.fs, fnObj l.fd l.ds) :: (l.ds, l.od) :: (l.al, atObj pos tp na) :: rest)) (hf : ∀ p ∈ l.fix, h.get? p.1 = some p.2) :
    ∀ p ∈ l.objs w line tl vs np pos tp na, h.get? p.1 = some p.2 :=
  List.forall_mem_cons.mpr ⟨(N _ (.head _)).1, List.forall_mem_cons.mpr ⟨(N _ (.tail _ (.head _))).1, List.forall_mem_cons.mpr ⟨(N _ (.tail _ (.tail _ (.head _)))).1, List.forall_mem_cons.mpr ⟨(N _ (.tail _ (.tail _ (.tail _ (.head _))))).1, List.forall_mem_cons.mpr ⟨(N _ (.tail _ (.tail _ (.tail _ (.tail _ (.head _)))))).1, List.forall_mem_cons.mpr ⟨(N _ (.tail _ (.tail _ (.tail _ (.tail _ (.tail _ (.head _))))))).1, hf⟩⟩⟩⟩⟩⟩

/-- one sign is read -/
theorem char_code {prog : Program} {w : World} {A : Around} {s : Shared} {p : Program} {loose : List Str} {mean : ExcName → Option Value} {mg mb : Str → Option Value} {R : Result → Shared → Prop}
    {l : LexA} {x : Str} {line : Int} {tl : Tok} {vs : List Value} {np : Nat} {pos : Int} {tp : Tok} {na : Nat} (hl : l.Ok prog w x) (hh : A.handled = none) (hdp : A.depth ≤ 480) (hun : A.units ≤ 2500)
    (hget : ∀ p ∈ l.objs w line tl vs np pos tp na, s.heap.get? p.1 = some p.2) (X : (hd.heap_39 w.params).In (hid s (l.objs w line tl vs np pos tp na))) (T : Top p loose mean mg mb (hid s (l.objs w line tl vs np pos tp na)))
    (hx : x.length ≤ 100) (hp0 : 0 ≤ pos) (hp1 : pos ≤ x.length) (hl0 : 0 ≤ line) (hl1 : line ≤ 100)
    (ret : ∀ h' tk tl' tp' na' y ty line', line' = (if (y == Str.ofString "\n") = true then line + 1 else line) → Keeps (hid s (l.objs w line tl vs np pos tp na)) h' → (∀ p ∈ l.objs w line' tl' vs np (pos + (y.length : Int)) tp' na', h'.get? p.1 = some p.2) → y = Txt.slice x (some pos) (some (pos + 1)) →
      R (.ok (.ret (.str y ty))) { s with heap := h', toks := tk }) :
    codeAny (model prog w) A (.call (.ref 63) ⟨[.ref l.xi], []⟩) R s := by
  revert prog w A s p loose mean mg mb R l x line tl vs np pos tp na hl hh hdp hun hget X T hx hp0 hp1 hl0 hl1 ret
  show ∀ prog w A s p loose mean mg mb R l x line tl vs np pos tp na hl hh hdp hun hget X T hx hp0 hp1 hl0 hl1 ret, _
  intro prog w A s p loose mean mg mb R l x line tl vs np pos tp na
  intros hl hh hdp hun hget X T hx hp0 hp1 hl0 hl1 ret
  obtain ⟨fo, ffd, hfm, hfd⟩ := hl.rd
  revert fo ffd hfm hfd
  intro fo ffd hfm hfd
  have hord := hl.ord
  have hsix : ∀ p ∈ l.six w line tl vs np pos tp na, s.heap.get? p.1 = some p.2 := fun p hp => hget p (List.mem_append_left l.fix hp)
  have hfx₀ : ∀ p ∈ l.fix, s.heap.get? p.1 = some p.2 := fun p hp => hget p (List.mem_append_right (l.six w line tl vs np pos tp na) hp)
  have hnot : ∀ p ∈ l.fix, ∀ q ∈ l.six w line tl vs np pos tp na, q.1 ≠ p.1 := fun p hp => by
    have z := hl.fix p hp
    refine List.forall_mem_cons.mpr ⟨?_, List.forall_mem_cons.mpr ⟨?_, List.forall_mem_cons.mpr ⟨?_, List.forall_mem_cons.mpr ⟨?_, List.forall_mem_cons.mpr ⟨?_, List.forall_mem_cons.mpr ⟨?_, List.forall_mem_nil _⟩⟩⟩⟩⟩⟩ <;> (refine neN ?_; dsimp only; omega)
  have hfx : ∀ p ∈ l.fix, (hid s (l.six w line tl vs np pos tp na)).get? p.1 = some p.2 := fun p hp => hideAll_get _ (hfx₀ p hp) fun q => by
    obtain ⟨q', hq, e⟩ := List.mem_map.mp q
    revert q' hq e
    intro q' hq e
    exact hnot p hp q' hq e
  have hho : ∀ b o, (hid s (l.objs w line tl vs np pos tp na)).get? b = some o → (hid s (l.six w line tl vs np pos tp na)).get? b = some o ∧ ∀ p ∈ l.fix, p.1 ≠ b := fun b o e => by
    have hnm : b ∉ (l.objs w line tl vs np pos tp na).map (·.1) := fun q => by
      rw [show (hid s (l.objs w line tl vs np pos tp na)).get? b = none from hideAll_none _ q] at e; cases e
    refine ⟨hideAll_get _ (of_hideAll _ e) fun q => hnm ?_, fun p hp e2 => hnm ?_⟩
    · obtain ⟨q', hq, e2⟩ := List.mem_map.mp q
      revert q' hq e2
      intro q' hq e2
      exact e2 ▸ List.mem_map_of_mem (List.mem_append_left l.fix hq)
    · exact e2 ▸ List.mem_map_of_mem (List.mem_append_right (l.six w line tl vs np pos tp na) hp)
  have X₁ := X.keeps fun b o e => (hho b o e).1
  have T₁ := T.keeps fun b o e => (hho b o e).1
  k_dflt (refine' code_fnM (l.six w line tl vs np pos tp na) hsix X₁ T₁ ?ho ?hcd ?hr ?hb ?hl ?_ ?c1 ?c2 ?c3 ?c4; (case ho => k_is); (case hcd => k_is); (case hr => exact Nat.lt_of_le_of_lt hdp (by decide)); (case hb => exact BindsTo.of_eq rfl); (case hl => exact locs rfl); (case c1 => exact rfl); (case c2 => exact rfl); (case c3 => exact rfl); (case c4 => decide))
  intro L' h₁ hL' F' N' l'
  generalize hid s (l.six w line tl vs np pos tp na) = hb at *
  generalize hid s (l.objs w line tl vs np pos tp na) = ho at *
  (try dsimp only)
  skip
  k_steps
  (rename News _ _ _ _ => lN')
  refine hold_in (meth_read (lN' _ (.tail _ (.tail _ (.tail _ (.head _))))).1 (lN' _ (.tail _ (.tail _ (.tail _ (.tail _ (.head _)))))).1 hl.od (if_pos rfl) ?_)
  intro tk₂
  obtain ⟨oc₂, od₂, dt₂, sl₂⟩ := fo
  dsimp only at hfd
  subst hfd
  k_steps
  (rename Fr _ _ _ _ => lF'); (rename News _ _ _ _ => lN')
  refine hold_in ?_
  k_dflt (refine callWith_F (q := l.rd) ⟨_, _, _, _, lF'.keep _ _ (hfx _ hfm)⟩ ?_)
  k_steps
  (rename Fr _ _ _ _ => lF'); (rename News _ _ _ _ => lN')
  refine hold_in ⟨⟨_, _, _, _, lF'.keep _ _ (hfx _ hfm)⟩, ?_⟩
  try dsimp only [List.nil_append, List.cons_append]
  k_steps
  (rename Fr _ _ _ _ => lF'); (rename News _ _ _ _ => lN')
  refine hold_in (use_read hl lF' lN' (by k_updF) hfx hho X T hh (by rw [depth_deeper]; omega) (by rw [units_deeper]; omega) hp0 (by omega) ?_)
  clear lF' lN'
  intro h₂ tk₃ tp' np' y ty F₂ N₂ ey
  dsimp only [LexA.six, lexDict, atObj, fnObj] at N₂
  have hyl : y.length ≤ 1 := by rw [ey]; exact char_len hp0 hp1
  k_steps
  · (rename Fr _ _ _ _ => F₇); (rename News _ _ _ _ => N₇)
    exact ret _ _ _ _ _ y ty _ (if_pos (by assumption)).symm (fun b o e => F₇.keep b o (hho b o e).1) (six_objs N₇ fun q hq => F₇.keep _ _ (hfx q hq)) ey
  · (rename Fr _ _ _ _ => F₇); (rename News _ _ _ _ => N₇)
    exact ret _ _ _ _ _ y ty _ (if_neg (by simp_all)).symm (fun b o e => F₇.keep b o (hho b o e).1) (six_objs N₇ fun q hq => F₇.keep _ _ (hfx q hq)) ey
end Mine
end

section
theorem Mine.top_off_GT : True := by
  w_top off
  trivial
local macro_rules | `(tactic| omega) => `(tactic| first | lia | omega (config := {}))
open PySem PySem.W PyProof.Rows PySem.Spec PySem.Calls
namespace Mine
open PyProof.Rows.LCg (lst lst_snoc NsObj ns_obj fr_but news_but)

structure GS where
  line : Int
  tl : Tok
  pos : Nat
  tp : Tok
  na : Nat
  tok : Str
  tt : Tok
  ended : Bool

noncomputable abbrev gled (w : World) (l : LexA) (it bm : Addr) (t : Tok) (np : Nat) (g : GS) : List (Addr × Obj) :=
  l.six w g.line g.tl [] np (g.pos : Int) g.tp g.na ++ [(it, if g.ended then citEnd else citObj bm t), (bm, bmObj 63 l.xi)]

section
variable {prog : Program} {w : World} {A : Around} {s : Shared} {p : Program} {loose : List Str} {mean : ExcName → Option Value} {mg mb : Str → Option Value} {R : Result → Shared → Prop} {hb ho : Heap} {L : Addr} {m : Str → Option Value} {news : List (Addr × Obj)} {l : LexA} {x : Str}

theorem use_char {line : Int} {tl : Tok} {vs : List Value} {np : Nat} {pos : Int} {tp : Tok} {na : Nat} (hl : l.Ok prog w x) (F : Fr hb L s.heap m) (N : News hb L s.heap news) (h6 : ∀ p ∈ l.six w line tl vs np pos tp na, p ∈ news)
    (hfx : ∀ p ∈ l.fix, hb.get? p.1 = some p.2) (hho : ∀ b o, ho.get? b = some o → hb.get? b = some o ∧ ∀ p ∈ l.fix, p.1 ≠ b) (X : (hd.heap_39 w.params).In ho) (T : Top p loose mean mg mb ho)
    (hh : A.handled = none) (hdp : A.depth ≤ 480) (hun : A.units ≤ 2500) (hx : x.length ≤ 100) (hp0 : 0 ≤ pos) (hp1 : pos ≤ x.length) (hl0 : 0 ≤ line) (hl1 : line ≤ 100)
    (ret : ∀ h' tk tl' tp' na' y ty line', line' = (if (y == Str.ofString "\n") = true then line + 1 else line) → Fr hb L h' m → (∀ p ∈ l.six w line' tl' vs np (pos + (y.length : Int)) tp' na', h'.get? p.1 = some p.2) →
      (∀ p ∈ news, (∀ q ∈ l.six w line tl vs np pos tp na, q.1 ≠ p.1) → h'.get? p.1 = some p.2) → y = Txt.slice x (some pos) (some (pos + 1)) → R (.ok (.ret (.str y ty))) { s with heap := h', toks := tk }) :
    codeAny (model prog w) A (.call (.ref 63) ⟨[.ref l.xi], []⟩) R s := by
  have hk : ∀ b o, ho.get? b = some o → (hid s (l.objs w line tl vs np pos tp na)).get? b = some o := fun b o e => hideAll_get _ (F.keep _ _ (hho b o e).1) fun q => by
    obtain ⟨p, hp, e2⟩ := List.mem_map.mp q
    rcases List.mem_append.mp (show p ∈ l.six w line tl vs np pos tp na ++ l.fix from hp) with hp | hp
    · have := (hho b o e).1
      rw [← e2, (N p (h6 p hp)).2.2] at this; cases this
    · exact (hho b o e).2 p hp e2
  have hf6 : ∀ p ∈ news, ∀ q ∈ l.fix, q.1 ≠ p.1 := fun p hp q hq e => by
    have z := hfx q hq
    rw [e, (N p hp).2.2] at z; cases z
  refine char_code hl hh hdp hun (fun p hp => ?_) (X.keeps hk) (T.keeps hk) hx hp0 hp1 hl0 hl1 fun h' tk tl' tp' na' y ty line' el kp ob ey => ?_
  · rcases List.mem_append.mp (show p ∈ l.six w line tl vs np pos tp na ++ l.fix from hp) with hp | hp
    · exact (N p (h6 p hp)).1
    · exact F.keep _ _ (hfx p hp)
  have kp2 : ∀ b o, (∀ q ∈ l.six w line tl vs np pos tp na, q.1 ≠ b) → (∀ p ∈ l.fix, p.1 ≠ b) → s.heap.get? b = some o → h'.get? b = some o := fun b o hb1 hb2 e => kp b o (hideAll_get _ e fun q => by
    obtain ⟨p, hp, e2⟩ := List.mem_map.mp q
    rcases List.mem_append.mp (show p ∈ l.six w line tl vs np pos tp na ++ l.fix from hp) with hp | hp
    · exact hb1 p hp e2
    · exact hb2 p hp e2)
  have kf : ∀ p ∈ l.fix, h'.get? p.1 = some p.2 := fun p hp => ob p (List.mem_append_right (l.six w line' tl' vs np (pos + (y.length : Int)) tp' na') hp)
  have hLf : ∀ p ∈ l.fix, p.1 ≠ L := fun p hp e => by
    have := Heap.get?_none_of_le (h := hb) (Nat.le_trans F.above (Nat.le_refl L))
    have z := hfx p hp
    rw [e, this] at z; cases z
  refine ret h' tk tl' tp' na' y ty line' el ⟨F.ns.at' fun o e => kp2 _ o (fun q hq => (N q (h6 q hq)).2.1) hLf e, fun b o e => ?_, F.above⟩ (fun p hp => ob p (List.mem_append_left l.fix hp)) (fun p hp hq => kp2 _ _ hq (fun q hq2 => hf6 p hp q hq2) (N p hp).1) ey
  by_cases hq : ∃ p ∈ l.fix, p.1 = b
  · obtain ⟨p, hp, rfl⟩ := hq
    have z := hfx p hp
    rw [e] at z; cases z
    exact kf p hp
  · exact kp2 b o (fun q hq2 q' => by rw [← q', (N q (h6 q hq2)).2.2] at e; cases e) (fun p hp e2 => hq ⟨p, hp, e2⟩) (F.keep b o e)
end
end Mine
end

section
theorem Mine.top_off_GU : True := by
  w_top off
  trivial
local macro_rules | `(tactic| omega) => `(tactic| first | lia | omega (config := {}))
open PySem PySem.W PyProof.Rows PySem.Spec PySem.Calls
namespace Mine
open PyProof.Rows.LCg (lst lst_snoc NsObj ns_obj fr_but news_but)

noncomputable def lineAt (x : Str) (k : Nat) : Int := 1 + ((x.cps.toList.take k).countP (fun c => c == 10) : Nat)
theorem lineAt_snoc {x : Str} {k c : Nat} (h : x.cps[k]? = some c) : lineAt x (k + 1) = if ((⟨#[c]⟩ : Str) == Str.ofString "\n") = true then lineAt x k + 1 else lineAt x k := by
  have hc : x.cps.toList[k]? = some c := by simpa using h
  unfold lineAt
  rw [List.take_add_one, hc, List.countP_append]
  by_cases e : c = 10
  · subst e
    rw [if_pos (by decide)]
    simp [List.countP_cons, List.countP_nil]; omega
  · rw [if_neg ?_]
    · simp [List.countP_cons, List.countP_nil, e]
    · intros q
      have := beq_iff_eq.mp q
      have h2 : (⟨#[c]⟩ : Str).cps[0]? = some 10 := by rw [this]; decide
      exact e (by simpa using h2)
theorem lineAt_bound {x : Str} {k : Nat} : 1 ≤ lineAt x k ∧ lineAt x k ≤ 1 + x.length := by
  unfold lineAt
  have h1 : (x.cps.toList.take k).countP (fun c => c == 10) ≤ (x.cps.toList.take k).length := List.countP_le_length
  have h2 : (x.cps.toList.take k).length ≤ x.cps.toList.length := by rw [List.length_take]; omega
  have h3 : x.length = x.cps.toList.length := by simp [Str.length]
  omega

noncomputable abbrev gl (w : World) (l : LexA) (it bm : Addr) (oi : Obj) (np : Nat) (line : Int) (tl : Tok) (pos : Nat) (tp : Tok) (na : Nat) : List (Addr × Obj) :=
  l.six w line tl [] np (pos : Int) tp na ++ [(it, oi), (bm, bmObj 63 l.xi)]
noncomputable def GB (x : Str) (g : GS) : Prop := g.pos ≤ x.length ∧ g.line = lineAt x g.pos ∧ (g.ended = true → g.pos = x.length)

theorem gl_apart {w : World} {l : LexA} {line : Int} {tl : Tok} {np : Nat} {pos : Int} {tp : Tok} {na : Nat} (a : Addr) (ha : @LT.lt Nat _ l.pb a) (ho : (@LT.lt Nat _ l.al l.fs) ∧ (@LT.lt Nat _ l.fs l.ds) ∧ (@LT.lt Nat _ l.ds l.dx) ∧ (@LT.lt Nat _ l.dx l.xi) ∧ (@LT.lt Nat _ l.xi l.pb)) :
    ∀ q ∈ l.six w line tl [] np pos tp na, q.1 ≠ a := by
  refine List.forall_mem_cons.mpr ⟨?_, List.forall_mem_cons.mpr ⟨?_, List.forall_mem_cons.mpr ⟨?_, List.forall_mem_cons.mpr ⟨?_, List.forall_mem_cons.mpr ⟨?_, List.forall_mem_cons.mpr ⟨?_, List.forall_mem_nil _⟩⟩⟩⟩⟩⟩ <;> (refine neN ?_; dsimp only; omega)

section
variable {prog : Program} {w : World} {A : Around} {s : Shared} {p : Program} {loose : List Str} {mean : ExcName → Option Value} {mg mb : Str → Option Value} {R : Result → Shared → Prop} {hb ho : Heap} {L : Addr} {m : Str → Option Value} {l : LexA} {x : Str} {it bm : Addr} {oi : Obj} {np : Nat}

theorem use_charG {line : Int} {tl : Tok} {pos : Nat} {tp : Tok} {na : Nat} (hl : l.Ok prog w x) (F : Fr hb L s.heap m) (N : News hb L s.heap (gl w l it bm oi np line tl pos tp na))
    (hfx : ∀ p ∈ l.fix, hb.get? p.1 = some p.2) (hho : ∀ b o, ho.get? b = some o → hb.get? b = some o ∧ ∀ p ∈ l.fix, p.1 ≠ b) (X : (hd.heap_39 w.params).In ho) (T : Top p loose mean mg mb ho)
    (hh : A.handled = none) (hdp : A.depth ≤ 480) (hun : A.units ≤ 2500) (hx : x.length ≤ 90) (hp1 : pos ≤ x.length) (hline : line = lineAt x pos) (hi : @LT.lt Nat _ l.pb it) (hm : @LT.lt Nat _ l.pb bm)
    (inn : ∀ h' tk tl' tp' na' c ty, x.cps[pos]? = some c → Fr hb L h' m → News hb L h' (gl w l it bm oi np (lineAt x (pos + 1)) tl' (pos + 1) tp' na') → R (.ok (.ret (.str ⟨#[c]⟩ ty))) { s with heap := h', toks := tk })
    (out : ∀ h' tk tl' tp' na' ty, pos = x.length → Fr hb L h' m → News hb L h' (gl w l it bm oi np line tl' pos tp' na') → R (.ok (.ret (.str Str.empty ty))) { s with heap := h', toks := tk }) :
    codeAny (model prog w) A (.call (.ref 63) ⟨[.ref l.xi], []⟩) R s := by
  have hb2 := @lineAt_bound x pos
  have N' : News hb L s.heap (l.six w line tl [] np (pos : Int) tp na ++ [(it, oi), (bm, bmObj 63 l.xi)]) := N
  refine use_char hl F N' (fun p hp => List.mem_append_left _ hp) hfx hho X T hh hdp hun (by omega) (Int.natCast_nonneg _) (by omega) (by omega) (by omega) fun h' tk tl' tp' na' y ty line' el F' o6 kp ey => ?_
  have mk : ∀ (line₂ : Int) (pos₂ : Nat), (∀ p ∈ l.six w line₂ tl' [] np (pos₂ : Int) tp' na', h'.get? p.1 = some p.2) → News hb L h' (gl w l it bm oi np line₂ tl' pos₂ tp' na') := fun line₂ pos₂ o6 => by
    refine fun p hp => ?_
    rcases List.mem_append.mp hp with hp | hp
    · refine ⟨o6 p hp, ?_⟩
      have hm6 : p.1 ∈ (l.six w line tl [] np (pos : Int) tp na).map (·.1) := List.mem_map_of_mem (f := (·.1)) hp
      obtain ⟨q, hq, e2⟩ := List.mem_map.mp hm6
      exact e2 ▸ (N' q (List.mem_append_left _ hq)).2
    · have hap : ∀ q ∈ l.six w line tl [] np (pos : Int) tp na, q.1 ≠ p.1 := by
        rcases List.mem_cons.mp hp with rfl | hp2
        · exact gl_apart _ hi hl.ord
        · rw [List.mem_singleton.mp hp2]; exact gl_apart _ hm hl.ord
      exact ⟨kp p (List.mem_append_right _ hp) hap, (N' p (List.mem_append_right _ hp)).2⟩
  by_cases hq : pos = x.length
  · have e1 : y = Str.empty := by rw [ey, hq]; exact char_out
    subst e1
    have e2 : line' = line := by rw [el]; exact if_neg (by decide)
    subst e2
    have e3 : (pos : Int) + (Str.empty.length : Int) = ((pos : Nat) : Int) := by simp [Str.empty, Str.length]
    rw [e3] at o6
    exact out h' tk tl' tp' na' ty hq F' (mk _ _ o6)
  · have hlt : pos < x.cps.size := by have : x.length = x.cps.size := rfl; omega
    obtain ⟨c, hc⟩ : ∃ c, x.cps[pos]? = some c := ⟨_, Array.getElem?_eq_getElem hlt⟩
    have e1 : y = ⟨#[c]⟩ := by rw [ey]; exact char_in hc
    subst e1
    have e2 : line' = lineAt x (pos + 1) := by rw [el, lineAt_snoc hc, hline]
    subst e2
    have e3 : (pos : Int) + ((⟨#[c]⟩ : Str).length : Int) = ((pos + 1 : Nat) : Int) := by simp [Str.length]
    rw [e3] at o6
    exact inn h' tk tl' tp' na' c ty hc F' (mk _ _ o6)

noncomputable abbrev gmu (x : Str) (g : GS) : Nat := 2 * (x.length - g.pos) + (if g.ended then 0 else 1)
noncomputable def RdEnd (w : World) (l : LexA) (it bm : Addr) (t : Tok) (np : Nat) (x : Str) (hb : Heap) (L : Addr) (s : Shared) (m₀ : Str → Option Value) (P : GS → Prop) (n : Nat) (s₂ : Shared) : Prop :=
  ∃ (g : GS) (h' : Heap) (tk : Nat) (m' : Str → Option Value), s₂ = { s with heap := h', toks := tk } ∧ Fr hb L h' m' ∧ News hb L h' (gl w l it bm (if g.ended then citEnd else citObj bm t) np g.line g.tl g.pos g.tp g.na) ∧
    m' (Str.ofString "token") = some (.str g.tok g.tt) ∧ (∀ z, z ≠ Str.ofString "ch" → z ≠ Str.ofString "token" → m' z = m₀ z) ∧ P g ∧ gmu x g < n

theorem news_it {line : Int} {tl : Tok} {pos : Nat} {tp : Tok} {na : Nat} {h h' : Heap} {oi' : Obj} (N : News hb L h (gl w l it bm oi np line tl pos tp na)) (hl : l.Ok prog w x) (hi : @LT.lt Nat _ l.pb it) (hne : it ≠ bm) (e : h'.get? it = some oi') (k : ∀ b o, b ≠ it → h.get? b = some o → h'.get? b = some o) :
    News hb L h' (gl w l it bm oi' np line tl pos tp na) := fun p hp => by
  rcases List.mem_append.mp hp with hp | hp
  · have z := N p (List.mem_append_left _ hp)
    exact ⟨k _ _ (gl_apart it hi hl.ord p hp) z.1, z.2⟩
  · rcases List.mem_cons.mp hp with rfl | hp
    · exact ⟨e, (N (it, oi) (List.mem_append_right _ (.head _))).2⟩
    · rw [List.mem_singleton.mp hp]
      have z := N (bm, bmObj 63 l.xi) (List.mem_append_right _ (.tail _ (.head _)))
      exact ⟨k _ _ (Ne.symm hne) z.1, z.2⟩

theorem citFor {E' : Value → Shared → Prop} {E : Value → Shared → Prop} {env : Env} {px : Pos} {body : List Stmt} {Q : Flow → Shared → Prop} {m₀ : Str → Option Value} {t : Tok} {of : Obj} {fd : FuncData} (P : GS → Prop) (g₀ : GS)
    (hl : l.Ok prog w x) (F : Fr hb env.locals s.heap m₀) (N : News hb env.locals s.heap (gl w l it bm (if g₀.ended then citEnd else citObj bm t) np g₀.line g₀.tl g₀.pos g₀.tp g₀.na))
    (hk : m₀ (Str.ofString "token") = some (.str g₀.tok g₀.tt)) (h0 : P g₀) (hPB : ∀ g, P g → GB x g)
    (hfx : ∀ p ∈ l.fix, hb.get? p.1 = some p.2) (hho : ∀ b o, ho.get? b = some o → hb.get? b = some o ∧ ∀ p ∈ l.fix, p.1 ≠ b) (X : (hd.heap_39 w.params).In ho) (T : Top p loose mean mg mb ho)
    (hf : hb.get? 63 = some of) (hfd : of.data = .func fd)
    (hh : A.handled = none) (hdp : A.depth ≤ 470) (hun : A.units ≤ 2400) (hx : x.length ≤ 90) (hi : @LT.lt Nat _ l.pb it) (hm : @LT.lt Nat _ l.pb bm) (hne : it ≠ bm)
    (turn : ∀ (g : GS) (u : Str → Option Value) h tk c ty tl' tp' na', P g → g.ended = false → x.cps[g.pos]? = some c →
      Fr hb env.locals h (fun y => if y = Str.ofString "ch" then some (.str ⟨#[c]⟩ ty) else kstB (fun z => if ([] : List Str).contains z then u z else m₀ z) [(Str.ofString "token", .str g.tok g.tt)] y) →
      News hb env.locals h (gl w l it bm (citObj bm t) np (lineAt x (g.pos + 1)) tl' (g.pos + 1) tp' na') →
      wpAny (model prog w) A (execs body env) (GPost Q (RdEnd w l it bm t np x hb env.locals s m₀ P (gmu x g))) (fun _ _ => False) { s with heap := h, toks := tk })
    (done : ∀ (g : GS) (u : Str → Option Value) h tk tl' tp' na', P g → g.pos = x.length →
      Fr hb env.locals h (fun y => if y = Str.ofString "ch" then u y else kstB (fun z => if ([] : List Str).contains z then u z else m₀ z) [(Str.ofString "token", .str g.tok g.tt)] y) →
      News hb env.locals h (gl w l it bm citEnd np (lineAt x g.pos) tl' g.pos tp' na') → Q .next { s with heap := h, toks := tk })
    (hxk : env.kindOf (Str.ofString "ch") = some .local) (hp : (env.scope.kind == .class || (env.scope.kind == .module && env.locals != env.globals)) = false) :
    wpAny (model prog w) A (pyIter (.ref it)) (fun it s₂ => codeAny (model prog w) A (.forLoop (.Name (Str.ofString "ch") px) it body [] env) (fun r s' => match r with | .ok f => Q f s' | .error e => E' e s') s₂) E s := by
  revert prog w A s p loose mean mg mb hb ho l x it bm np E' E env px body Q m₀ t of fd P g₀ hl F N hk h0 hPB hfx hho X T hf hfd hh hdp hun hx hi hm hne turn done hxk hp
  show ∀ prog w A s p loose mean mg mb hb ho l x it bm np E' E env px body Q m₀ t of fd P g₀ hl F N hk h0 hPB hfx hho X T hf hfd hh hdp hun hx hi hm hne turn done hxk hp, _
  intro prog w A s p loose mean mg mb hb ho l x it bm np E' E env px body Q m₀ t of fd P g₀
  intros hl F N hk h0 hPB hfx hho X T hf hfd hh hdp hun hx hi hm hne turn done hxk hp
  have hi0 := N (it, _) (List.mem_append_right _ (.head _))
  refine pyIter_cit (b := bm) (t := t) (by
    have := hi0.1
    cases hq : g₀.ended with
    | true => rw [hq] at this; exact .inr this
    | false => rw [hq] at this; exact .inl this) ?_
  refine codeAny_forLoop
    (fun k s' => ∃ (g : GS) (h' : Heap) (tk : Nat) (m' : Str → Option Value), s' = { s with heap := h', toks := tk } ∧ Fr hb env.locals h' m' ∧ News hb env.locals h' (gl w l it bm (if g.ended then citEnd else citObj bm t) np g.line g.tl g.pos g.tp g.na) ∧
      (∀ p ∈ [(Str.ofString "token", Value.str g.tok g.tt)], m' p.1 = some p.2) ∧ (∀ z, z ≠ Str.ofString "ch" → (∀ p ∈ [(Str.ofString "token", Value.str g.tok g.tt)], z ≠ p.1) → ([] : List Str).contains z = false → m' z = m₀ z) ∧ P g ∧ k = gmu x g) ?_ (gmu x g₀)
    ⟨g₀, s.heap, s.toks, m₀, rfl, F, N, List.forall_mem_cons.mpr ⟨hk, List.forall_mem_nil _⟩, fun _ _ _ _ => rfl, h0, rfl⟩
  intro k s' xo1
  obtain ⟨g, h', tk, m', hr6, F', N', hk', hr', hP, hr7⟩ := (xo1)
  revert g h' tk m' hr6 F' N' hk' hr' hP hr7
  intro g h' tk m' hr6 F' N' hk' hr' hP hr7
  obtain rfl := hr6
  obtain rfl := hr7
  obtain ⟨b1, b2, b3⟩ := hPB g hP
  revert b1 b2 b3
  intro b1 b2 b3
  obtain ⟨gl1, gl2, gl3, gl4, gl5, gl6, gl7, gl8⟩ := g
  dsimp only at b1 b2 b3 N' hk' hr'
  subst b2
  have hfH : h'.get? 63 = some of := F'.keep _ _ hf
  have hit := (N' (it, _) (List.mem_append_right _ (.head _)))
  have hbm := (N' (bm, _) (List.mem_append_right _ (.tail _ (.head _))))
  cases gl8 with
  | true =>
    refine next_citEnd (s := { s with heap := h', toks := tk }) hh hit.1 fun h₁ kp => wpAny_execs_nil ?_
    exact done ⟨lineAt x gl3, gl2, gl3, gl4, gl5, gl6, gl7, true⟩ m' h₁ tk gl2 gl4 gl5 hP (b3 rfl) (kst_frOut hk' hr' (fr_kp F' kp)) (news_kp N' kp)
  | false =>
    refine next_cit (s := { s with heap := h', toks := tk }) hh hit.1 hbm.1 hfH hfd ?_
    refine use_charG (s := { s with heap := h', toks := tk }) hl F' N' hfx hho X T hh (Nat.le_trans (Nat.le_trans ?_ hdp) (by decide)) (show A.units + 1 ≤ 2500 by omega) hx b1 rfl hi hm ?_ ?_
    · exact Nat.le_refl _
    · intro h₁ tk₁ tl₁ tp₁ na₁ c ty hc F₁ N₁
      refine ⟨_, _, rfl, (N₁ (it, _) (List.mem_append_right _ (.head _))).1, (N₁ (bm, _) (List.mem_append_right _ (.tail _ (.head _)))).1, F₁.keep _ _ hf, fun _ => ?_, fun q => ?_⟩
      · refine wpAny_assign_Name (wpAny_storeName_local hxk F₁.ns ?_ hp)
        intro h₂ hn₂ hs₂
        have F₂ := F₁.set hn₂ hs₂
        refine wpAny_mono (turn ⟨lineAt x gl3, gl2, gl3, gl4, gl5, gl6, gl7, false⟩ m' h₂ _ c ty tl₁ tp₁ na₁ hP rfl hc (kst_fr hk' hr' F₂) (N₁.set hs₂)) ?_ fun _ _ e => e.elim
        intro f s₃ h₃
        have fin : ∀ {s₃}, RdEnd w l it bm t np x hb env.locals s m₀ P (gmu x ⟨lineAt x gl3, gl2, gl3, gl4, gl5, gl6, gl7, false⟩) s₃ → ∃ k', k' < gmu x ⟨lineAt x gl3, gl2, gl3, gl4, gl5, gl6, gl7, false⟩ ∧ ∃ (g : GS) (h' : Heap) (tk : Nat) (m' : Str → Option Value), s₃ = { s with heap := h', toks := tk } ∧ Fr hb env.locals h' m' ∧ News hb env.locals h' (gl w l it bm (if g.ended then citEnd else citObj bm t) np g.line g.tl g.pos g.tp g.na) ∧
            (∀ p ∈ [(Str.ofString "token", Value.str g.tok g.tt)], m' p.1 = some p.2) ∧ (∀ z, z ≠ Str.ofString "ch" → (∀ p ∈ [(Str.ofString "token", Value.str g.tok g.tt)], z ≠ p.1) → ([] : List Str).contains z = false → m' z = m₀ z) ∧ P g ∧ k' = gmu x g := by
          intro s₃ xo4
          obtain ⟨g', h₃, tk₃, m₃, hr8, F₃, N₃, e₃, r₃, P₃, l₃⟩ := (xo4)
          revert g' h₃ tk₃ m₃ hr8 F₃ N₃ e₃ r₃ P₃ l₃
          intro g' h₃ tk₃ m₃ hr8 F₃ N₃ e₃ r₃ P₃ l₃
          obtain rfl := hr8
          exact ⟨_, l₃, g', h₃, tk₃, m₃, rfl, F₃, N₃, List.forall_mem_cons.mpr ⟨e₃, List.forall_mem_nil _⟩, fun z z1 z2 _ => r₃ z z1 (z2 _ (.head _)), P₃, rfl⟩
        cases f with
        | ret v => exact h₃
        | brk => exact h₃
        | cont => exact fin h₃
        | next => exact fin h₃
      · have : (⟨#[c]⟩ : Str).length = Str.empty.length := by rw [beq_iff_eq.mp q]; rfl
        cases this
    · intro h₁ tk₁ tl₁ tp₁ na₁ ty hpx F₁ N₁
      refine ⟨_, _, rfl, (N₁ (it, _) (List.mem_append_right _ (.head _))).1, (N₁ (bm, _) (List.mem_append_right _ (.tail _ (.head _)))).1, F₁.keep _ _ hf, fun q => ?_, fun _ h₂ e₂ k₂ => wpAny_execs_nil ?_⟩
      · exact absurd q (by decide)
      · have hitN := (N₁ (it, _) (List.mem_append_right _ (.head _)))
        have F₂ : Fr hb env.locals h₂ m' := ⟨F₁.ns.at' fun o e => k₂ _ o (Ne.symm hitN.2.1) e, fun b o e => k₂ b o (fun q => by rw [q, hitN.2.2] at e; cases e) (F₁.keep b o e), F₁.above⟩
        exact done ⟨lineAt x gl3, gl2, gl3, gl4, gl5, gl6, gl7, false⟩ m' h₂ tk₁ tl₁ tp₁ na₁ hP hpx (kst_frOut hk' hr' F₂) (news_it N₁ hl hi hne e₂ k₂)
end
end Mine
end

section
theorem Mine.top_off_GO : True := by
  w_top off
  trivial
local macro_rules | `(tactic| omega) => `(tactic| first | lia | omega (config := {}))
open PySem PySem.W PyProof.Rows PySem.Spec PySem.Calls
namespace Mine
open PySem.Builtin.Str
/-- the reading within a token, until a sign at which it stops: the token, and what is left -/
noncomputable def gs (st : Nat → Bool) : List Nat → List Nat → List Nat × List Nat
  | [], tk => (tk, [])
  | [c], tk => if st c || c == 92 then (tk, []) else (tk ++ [c], [])
  | c :: d :: r, tk => if st c then (tk, d :: r) else if c == 92 then gs st r (tk ++ [d]) else gs st (d :: r) (tk ++ [c])
noncomputable def isWs (c : Nat) : Bool := c == 10 || c == 9 || c == 13 || c == 32
noncomputable def isQ (c : Nat) : Bool := c == 34
/-- the reading of a token -/
noncomputable def go : List Nat → List Nat × List Nat
  | [] => ([], [])
  | c :: r => if isWs c then go r else if isQ c then gs isQ r [] else if c == 92 then (match r with | [] => ([], []) | d :: r' => gs isWs r' [d]) else gs isWs r [c]

theorem ws_char (c : Nat) : (occurrences (Str.ofString "\n\t\r ") ⟨#[c]⟩ 0 (Str.ofString "\n\t\r ").length 1).isEmpty = !(isWs c) := by
  have h := empty_one (Str.ofString "\n\t\r ") c
  rw [h]
  congr 1
  rw [show (Str.ofString "\n\t\r ").cps.toList = [10, 9, 13, 32] by decide]
  rw [Bool.eq_iff_iff]
  simp [isWs]
  omega

theorem one_eq {c d : Nat} : ((⟨#[c]⟩ : Str) == ⟨#[d]⟩) = (c == d) := by
  rw [Bool.eq_iff_iff, beq_iff_eq, beq_iff_eq]
  constructor
  · intros e; injection e with e; simpa using e
  · rintro rfl; rfl
theorem is_q {c : Nat} : ((⟨#[c]⟩ : Str) == Str.ofString "\"") = (c == 34) := by rw [show Str.ofString "\"" = ⟨#[34]⟩ by decide]; exact one_eq
theorem is_b {c : Nat} : ((⟨#[c]⟩ : Str) == Str.ofString "\\") = (c == 92) := by rw [show Str.ofString "\\" = ⟨#[92]⟩ by decide]; exact one_eq
/-- the tail of the text from a place on -/
noncomputable def restAt (x : Str) (k : Nat) : List Nat := x.cps.toList.drop k
theorem restAt_cons {x : Str} {k c : Nat} (h : x.cps[k]? = some c) : restAt x k = c :: restAt x (k + 1) := by
  have hc : x.cps.toList[k]? = some c := by simpa using h
  unfold restAt
  obtain ⟨hk, e⟩ := List.getElem?_eq_some_iff.mp hc
  rw [List.drop_eq_getElem_cons hk, e]
theorem restAt_end {x : Str} {k : Nat} (h : k = x.length) : restAt x k = [] := by
  have h3 : x.length = x.cps.toList.length := by simp [Str.length]
  unfold restAt
  exact List.drop_of_length_le (by omega)
theorem gs_stop {st : Nat → Bool} {c : Nat} {r tk : List Nat} (h : st c = true) : gs st (c :: r) tk = (tk, r) := by
  cases r <;> simp [gs, h]
theorem gs_add {st : Nat → Bool} {c : Nat} {r tk : List Nat} (h : st c = false) (h2 : c ≠ 92) : gs st (c :: r) tk = gs st r (tk ++ [c]) := by
  cases r <;> simp [gs, h, h2]
theorem gs_esc {st : Nat → Bool} {d : Nat} {r tk : List Nat} (h : st 92 = false) : gs st (92 :: d :: r) tk = gs st r (tk ++ [d]) := by
  simp [gs, h]
theorem gs_last {st : Nat → Bool} {tk : List Nat} (h : st 92 = false) : gs st [92] tk = (tk, []) := by
  simp [gs]
theorem go_ws {c : Nat} {r : List Nat} (h : isWs c = true) : go (c :: r) = go r := by simp [go, h]
theorem go_q {r : List Nat} : go (34 :: r) = gs isQ r [] := by simp [go, isWs, isQ]
theorem go_esc {d : Nat} {r : List Nat} : go (92 :: d :: r) = gs isWs r [d] := by simp [go, isWs, isQ]
theorem go_last : go [92] = ([], []) := by simp [go, isWs, isQ]
theorem go_add {c : Nat} {r : List Nat} (h : isWs c = false) (h1 : c ≠ 34) (h2 : c ≠ 92) : go (c :: r) = gs isWs r [c] := by simp [go, h, isQ, h1, h2]
end Mine
end

end

section
theorem Mine.top_off_GE : True := by
  w_top off
  trivial
local macro_rules | `(tactic| omega) => `(tactic| first | lia | omega (config := {}))
open PySem PySem.W PyProof.Rows PySem.Spec PySem.Calls
namespace Mine
open PyProof.Rows.LCg (lst lst_snoc NsObj ns_obj fr_but news_but)
theorem k_filledD : (hd.heap_39 = hd.heap_39) ∧ (PySem.Challenge.rw_re0068_01 = PySem.Challenge.rw_re0068_01) := by
  k_fill
  exact ⟨rfl, rfl⟩

section
variable {w : World} {l : LexA} {s : Shared} {line : Int} {tl : Tok} {vs : List Value} {np : Nat} {pos : Int} {tp : Tok} {na : Nat} {prog : Program} {x : Str}
theorem hid_six (hl : l.Ok prog w x) (hget : ∀ p ∈ l.objs w line tl vs np pos tp na, s.heap.get? p.1 = some p.2) :
    (∀ p ∈ l.six w line tl vs np pos tp na, s.heap.get? p.1 = some p.2) ∧ (∀ p ∈ l.fix, (hid s (l.six w line tl vs np pos tp na)).get? p.1 = some p.2) ∧
    (∀ b o, (hid s (l.objs w line tl vs np pos tp na)).get? b = some o → (hid s (l.six w line tl vs np pos tp na)).get? b = some o ∧ ∀ p ∈ l.fix, p.1 ≠ b) := by
  have hord := hl.ord
  have hsix : ∀ p ∈ l.six w line tl vs np pos tp na, s.heap.get? p.1 = some p.2 := fun p hp => hget p (List.mem_append_left l.fix hp)
  have hfx₀ : ∀ p ∈ l.fix, s.heap.get? p.1 = some p.2 := fun p hp => hget p (List.mem_append_right (l.six w line tl vs np pos tp na) hp)
  have hnot : ∀ p ∈ l.fix, ∀ q ∈ l.six w line tl vs np pos tp na, q.1 ≠ p.1 := fun p hp => by
    have z := hl.fix p hp
    refine List.forall_mem_cons.mpr ⟨?_, List.forall_mem_cons.mpr ⟨?_, List.forall_mem_cons.mpr ⟨?_, List.forall_mem_cons.mpr ⟨?_, List.forall_mem_cons.mpr ⟨?_, List.forall_mem_cons.mpr ⟨?_, List.forall_mem_nil _⟩⟩⟩⟩⟩⟩ <;> (refine neN ?_; dsimp only; omega)
  refine ⟨hsix, fun p hp => hideAll_get _ (hfx₀ p hp) fun q => ?_, fun b o e => ?_⟩
  · obtain ⟨q', hq, e⟩ := List.mem_map.mp q
    exact hnot p hp q' hq e
  · have hnm : b ∉ (l.objs w line tl vs np pos tp na).map (·.1) := fun q => by
      rw [show (hid s (l.objs w line tl vs np pos tp na)).get? b = none from hideAll_none _ q] at e; cases e
    refine ⟨hideAll_get _ (of_hideAll _ e) fun q => hnm ?_, fun p hp e2 => hnm ?_⟩
    · obtain ⟨q', hq, e2⟩ := List.mem_map.mp q
      exact e2 ▸ List.mem_map_of_mem (List.mem_append_left l.fix hq)
    · exact e2 ▸ List.mem_map_of_mem (List.mem_append_right (l.six w line tl vs np pos tp na) hp)
end

section
variable {prog : Program} {w : World} {A : Around} {E : Value → Shared → Prop} {s : Shared} {hb : Heap} {L : Addr} {m : Str → Option Value} {news : List (Addr × Obj)} {l : LexA} {it bm : Addr} {oi : Obj} {np : Nat}
theorem call_iter2K {b f self : Addr} {t : Tok} {Q : Value → Shared → Prop} (F : Fr hb L s.heap m) (N : News hb L s.heap news) (hm : (b, bmObj f self) ∈ news)
    (h : ∀ it h', Fr hb L h' m → News hb L h' ((it, citObj b t) :: news) → (∀ p ∈ news, p.1 < it) → Q (.ref it) { s with heap := h' }) :
    wpAny (model prog w) A (call (.builtin "iter") [.ref b, .str (Str.ofString "") t]) Q E s :=
  call_iter2 (N _ hm).1 (h _ _ (F.push _) (fun p hp => by
    rcases List.mem_cons.mp hp with rfl | hp
    · exact ⟨Heap.get?_push_size _ rfl, Ne.symm (Nat.ne_of_lt F.ns.lt), next_is_new F⟩
    · exact ⟨Heap.get?_push_of_some _ (N p hp).1, (N p hp).2⟩) fun p hp => Heap.lt_size (N p hp).1)
theorem gl_of {h : Heap} {line : Int} {tl : Tok} {pos : Nat} {tp : Tok} {na : Nat} (N : News hb L h ((it, oi) :: (bm, bmObj 63 l.xi) :: l.six w line tl [] np (pos : Int) tp na)) : News hb L h (gl w l it bm oi np line tl pos tp na) := fun p hp => by
  rcases List.mem_append.mp hp with hp | hp
  · exact N p (.tail _ (.tail _ hp))
  · rcases List.mem_cons.mp hp with rfl | hp
    · exact N _ (.head _)
    · rw [List.mem_singleton.mp hp]; exact N _ (.tail _ (.head _))
end

noncomputable def Pout (x : Str) (R : List Nat × List Nat) (g : GS) : Prop := GB x g ∧ ∃ y, g.tok = ⟨y.toArray⟩ ∧ y.length ≤ g.pos ∧ (if g.ended then R = (y, []) else y = [] ∧ go (restAt x g.pos) = R)
noncomputable def Pin (x : Str) (st : Nat → Bool) (R : List Nat × List Nat) (g : GS) : Prop := GB x g ∧ ∃ y, g.tok = ⟨y.toArray⟩ ∧ y.length ≤ g.pos ∧ gs st (restAt x g.pos) y = R

theorem add_one {y : List Nat} {c : Nat} : ((⟨y.toArray⟩ : Str) ++ (⟨#[c]⟩ : Str)) = ⟨(y ++ [c]).toArray⟩ := by
  show (⟨y.toArray ++ #[c]⟩ : Str) = _
  simp
theorem add_none {y : List Nat} : ((⟨y.toArray⟩ : Str) ++ Str.ofString "") = ⟨y.toArray⟩ := by
  rw [show Str.ofString "" = Str.empty by decide]
  show (⟨y.toArray ++ #[]⟩ : Str) = _
  simp

theorem rd_end {w : World} {l : LexA} {it bm : Addr} {t : Tok} {np : Nat} {x : Str} {hb : Heap} {L : Addr} {s : Shared} {m₀ m' : Str → Option Value} {P : GS → Prop} {n : Nat} {h' : Heap} {tk : Nat} {line : Int} {tl : Tok} {pos : Nat} {tp : Tok} {na : Nat} {tok : Str} {tt : Tok}
    (F : Fr hb L h' m') (N : News hb L h' (gl w l it bm (citObj bm t) np line tl pos tp na)) (hk : m' (Str.ofString "token") = some (.str tok tt)) (hr : ∀ z, z ≠ Str.ofString "ch" → z ≠ Str.ofString "token" → m' z = m₀ z)
    (hP : P ⟨line, tl, pos, tp, na, tok, tt, false⟩) (hm : 2 * (x.length - pos) + 1 < n) : RdEnd w l it bm t np x hb L s m₀ P n { s with heap := h', toks := tk } :=
  ⟨⟨line, tl, pos, tp, na, tok, tt, false⟩, h', tk, m', rfl, F, N, hk, hr, hP, hm⟩
theorem rd_endE {w : World} {l : LexA} {it bm : Addr} {t : Tok} {np : Nat} {x : Str} {hb : Heap} {L : Addr} {s : Shared} {m₀ m' : Str → Option Value} {P : GS → Prop} {n : Nat} {h' : Heap} {tk : Nat} {line : Int} {tl : Tok} {pos : Nat} {tp : Tok} {na : Nat} {tok : Str} {tt : Tok}
    (F : Fr hb L h' m') (N : News hb L h' (gl w l it bm citEnd np line tl pos tp na)) (hk : m' (Str.ofString "token") = some (.str tok tt)) (hr : ∀ z, z ≠ Str.ofString "ch" → z ≠ Str.ofString "token" → m' z = m₀ z)
    (hP : P ⟨line, tl, pos, tp, na, tok, tt, true⟩) (hm : 2 * (x.length - pos) < n) : RdEnd w l it bm t np x hb L s m₀ P n { s with heap := h', toks := tk } :=
  ⟨⟨line, tl, pos, tp, na, tok, tt, true⟩, h', tk, m', rfl, F, N, hk, hr, hP, hm⟩

local macro_rules | `(tactic| walk_at $k:str) => if ["call ref", "call builtin:iter", "pyIter ref"].contains k.getString then `(tactic| (refine hold_of ?_)) else Lean.Macro.throwUnsupported
local macro_rules | `(tactic| walk_at "exec For Name Name cons nil") => `(tactic| (k_dflt (refine wpAny_For ?_ (by intro _; rfl))))

theorem token_spec {prog : Program} {w : World} {s : Shared} {p : Program} {loose : List Str} {mean : ExcName → Option Value} {mg mb : Str → Option Value} {Q E : Value → Shared → Prop}
    {l : LexA} {x : Str} {line : Int} {tl : Tok} {np : Nat} {pos : Nat} {tp : Tok} {na : Nat} (hl : l.Ok prog w x)
    (hget : ∀ p ∈ l.objs w line tl [] np (pos : Int) tp na, s.heap.get? p.1 = some p.2) (X : (hd.heap_39 w.params).In (hid s (l.objs w line tl [] np (pos : Int) tp na))) (T : Top p loose mean mg mb (hid s (l.objs w line tl [] np (pos : Int) tp na)))
    (hx : x.length ≤ 90) (hp1 : pos ≤ x.length) (hline : line = lineAt x pos)
    (ret : ∀ h' tk tl' tp' na' pos' y ty, Keeps (hid s (l.objs w line tl [] np (pos : Int) tp na)) h' → (∀ p ∈ l.objs w (lineAt x pos') tl' [] np (pos' : Int) tp' na', h'.get? p.1 = some p.2) → pos' ≤ x.length → go (restAt x pos) = (y, restAt x pos') →
      Q (.str ⟨y.toArray⟩ ty) { s with heap := h', toks := tk }) :
    wpAny (model prog w) (AM 5) (call (.ref 70) [.ref l.xi]) Q E s := by
  have hord := hl.ord
  obtain ⟨hsix, hfx, hho⟩ := hid_six hl hget
  have X₁ := X.keeps fun b o e => (hho b o e).1
  have T₁ := T.keeps fun b o e => (hho b o e).1
  obtain ⟨of, fd, hf, hfd⟩ : ∃ of fd, (hid s (l.six w line tl [] np (pos : Int) tp na)).get? 63 = some of ∧ of.data = .func fd := ⟨_, _, X₁ _ _ (by k_is), rfl⟩
  k_dflt (refine' call_fnM (l.six w line tl [] np (pos : Int) tp na) hsix X₁ T₁ ?ho ?hcd ?hr ?hb ?hl ?_ ?c1 ?c2 ?c3 ?c4; (case ho => k_is); (case hcd => k_is); (case hr => decide); (case hb => exact BindsTo.of_eq rfl); (case hl => exact locs rfl); (case c1 => exact rfl); (case c2 => exact rfl); (case c3 => exact rfl); (case c4 => decide))
  intro L' h₁ hL' F' N' l'
  generalize hid s (l.six w line tl [] np (pos : Int) tp na) = hb at *
  generalize hid s (l.objs w line tl [] np (pos : Int) tp na) = ho at *
  (try dsimp only)
  (try k_fold)
  k_steps
  (rename Fr _ _ _ _ => lF'); (rename News _ _ _ _ => lN')
  rename_i tk₁ h₂ bm h₃ l1
  refine hold_in (call_iter2K lF' lN' (.head _) ?_)
  clear lF' lN'
  intro it h₄ lF' lN' l2
  replace lN' := gl_of lN'
  have hbi : @LT.lt Nat _ bm it := l2 _ (.head _)
  have hpi : @LT.lt Nat _ l.pb it := l2 _ (.tail _ (.tail _ (.tail _ (.head _))))
  have hpb : @LT.lt Nat _ l.pb bm := l1.2.2.1
  k_steps
  (rename Fr _ _ _ _ => lF'); (rename News _ _ _ _ => lN')
  have fin : ∀ (h' : Heap) (m' : Str → Option Value) (oi : Obj) tk tl' (pos' : Nat) tp' na' y ty, Fr hb L' h' m' → News hb L' h' (gl w l it bm oi np (lineAt x pos') tl' pos' tp' na') → pos' ≤ x.length → go (restAt x pos) = (y, restAt x pos') → Q (.str ⟨y.toArray⟩ ty) { s with heap := h', toks := tk } :=
    fun h' m' oi tk tl' pos' tp' na' y ty F N h1 h2 => ret h' tk tl' tp' na' pos' y ty (fun b o e => F.keep b o (hho b o e).1) (fun p hp => by
      rcases List.mem_append.mp (show p ∈ l.six w (lineAt x pos') tl' [] np (pos' : Int) tp' na' ++ l.fix from hp) with hp | hp
      · exact (N p (List.mem_append_left _ hp)).1
      · exact F.keep _ _ (hfx p hp)) h1 h2
  refine hold_in (citFor (Pout x (go (restAt x pos))) ⟨line, tl, pos, tp, na, Str.ofString "", _, false⟩ hl lF' lN' rfl ⟨⟨hp1, hline, fun e => by cases e⟩, [], rfl, Nat.zero_le _, rfl, rfl⟩ (fun g hg => hg.1) hfx hho X T hf hfd rfl (Nat.le_of_ble_eq_true rfl) (Nat.le_of_ble_eq_true rfl) hx hpi hpb (Ne.symm (neN (Nat.ne_of_lt hbi))) ?_ ?_ rfl rfl)
  · intro g u h tk c ty tl' tp' na' hP hen hc F' N'
    obtain ⟨g1, g2, g3, g4, g5, g6, g7, g8⟩ := g
    obtain ⟨⟨b1, b2, b3⟩, y, ey, yl, hy⟩ := hP
    clear lF' lN' b3
    dsimp only at b1 b2 ey yl hy hen hc F' N'
    subst hen
    obtain ⟨rfl, hy⟩ := hy
    subst ey
    have hlt : g3 < x.length := (Array.getElem?_eq_some_iff.mp hc).1
    rw [restAt_cons hc] at hy
    k_steps
    · (rename (((⟨#[c]⟩ : Str) == Str.ofString "\"") = true) => hq)
      rw [is_q, beq_iff_eq] at hq
      subst hq
      rw [go_q] at hy
      (rename Fr _ _ _ _ => lF'); (rename News _ _ _ _ => lN')
      refine hold_in (citFor (Pin x isQ (go (restAt x pos))) ⟨_, tl', g3 + 1, tp', na', _, _, false⟩ hl lF' lN' rfl ⟨⟨hlt, rfl, fun e => by cases e⟩, [], rfl, Nat.zero_le _, hy⟩ (fun g hg => hg.1) hfx hho X T hf hfd rfl (Nat.le_of_ble_eq_true rfl) (Nat.le_of_ble_eq_true rfl) hx hpi hpb (Ne.symm (neN (Nat.ne_of_lt hbi))) ?_ ?_ rfl rfl)
      · clear lF' lN' hy
        intro g u h tk c ty tl' tp' na' hP hen hc F' N'
        obtain ⟨g1, g2, g3, g4, g5, g6, g7, g8⟩ := g
        obtain ⟨⟨b1, b2, b3⟩, y, ey, yl, hy⟩ := hP
        clear b3
        dsimp only at b1 b2 ey yl hy hen hc F' N'
        subst hen
        subst ey
        have hlt : g3 < x.length := (Array.getElem?_eq_some_iff.mp hc).1
        rw [restAt_cons hc] at hy
        have htl : (⟨y.toArray⟩ : Str).length ≤ 90 := by show (y.toArray).size ≤ 90; rw [List.size_toArray]; omega
        k_steps
        · (rename (((⟨#[c]⟩ : Str) == Str.ofString "\"") = true) => hq)
          rw [is_q] at hq
          rw [gs_stop (st := isQ) hq] at hy
          exact fin h _ (citObj bm _) _ tl' (g3 + 1) tp' na' y g7 F' N' hlt hy.symm
        · (rename (((⟨#[c]⟩ : Str) == Str.ofString "\\") = true) => hb')
          rw [is_b, beq_iff_eq] at hb'
          subst hb'
          (try dsimp only)
          (rename Fr _ _ _ _ => lF'); (rename News _ _ _ _ => lN')
          k_dflt (refine callWith_F0 ⟨_, _, _, _, lF'.keep _ _ (X₁ _ _ (by k_is))⟩ ?_)
          refine (wpAny_call (use_charG hl lF' lN' hfx hho X T rfl (by exact Nat.le_of_ble_eq_true rfl) (by exact Nat.le_of_ble_eq_true rfl) hx (pos := g3 + 1) (by omega) rfl hpi hpb ?_ ?_))
          · clear lF' lN'
            intro h₂ tk₂ tl₂ tp₂ na₂ d ty₂ hd F₂ N₂
            have hlt₂ : g3 + 1 < x.length := (Array.getElem?_eq_some_iff.mp hd).1
            rw [restAt_cons hd] at hy
            (try dsimp only)
            k_steps
            (rename Fr _ _ _ _ => lF'); (rename News _ _ _ _ => lN')
            rw [gs_esc (st := isQ) rfl] at hy
            exact rd_end lF' lN' rfl (fun z h1 h2 => by simp only [kstB, if_neg h1, if_neg h2, List.contains_nil, Bool.false_eq_true, if_false]) ⟨⟨hlt₂, rfl, fun e => by cases e⟩, y ++ [d], add_one, by rw [List.length_append, List.length_singleton]; dsimp only; omega, hy⟩ (by simp only [gmu, Bool.false_eq_true, if_false]; omega)
          · clear lF' lN'
            intro h₂ tk₂ tl₂ tp₂ na₂ ty₂ hd F₂ N₂
            rw [restAt_end hd] at hy
            rw [show Str.empty = Str.ofString "" by decide]
            (try dsimp only)
            k_steps
            (rename Fr _ _ _ _ => lF'); (rename News _ _ _ _ => lN')
            rw [gs_last (st := isQ) rfl] at hy
            exact rd_end lF' lN' rfl (fun z h1 h2 => by simp only [kstB, if_neg h1, if_neg h2, List.contains_nil, Bool.false_eq_true, if_false]) ⟨⟨hlt, rfl, fun e => by cases e⟩, y, add_none, by dsimp only; omega, by dsimp only; rw [restAt_end hd]; exact hy⟩ (by simp only [gmu, Bool.false_eq_true, if_false]; omega)
        · (rename (((⟨#[c]⟩ : Str) == Str.ofString "\"") = false) => hn)
          (rename (((⟨#[c]⟩ : Str) == Str.ofString "\\") = false) => hb')
          rw [is_q] at hn
          rw [is_b, beq_eq_false_iff_ne] at hb'
          rw [gs_add (st := isQ) hn hb'] at hy
          (rename Fr _ _ _ _ => lF'); (rename News _ _ _ _ => lN')
          exact rd_end lF' lN' rfl (fun z h1 h2 => by simp only [kstB, if_neg h1, if_neg h2, List.contains_nil, Bool.false_eq_true, if_false]) ⟨⟨hlt, rfl, fun e => by cases e⟩, y ++ [c], add_one, by rw [List.length_append, List.length_singleton]; dsimp only; omega, hy⟩ (by simp only [gmu, Bool.false_eq_true, if_false]; omega)
      · clear lF' lN' hy
        intro g u h tk tl' tp' na' hP hend F' N'
        obtain ⟨g1, g2, g3, g4, g5, g6, g7, g8⟩ := g
        obtain ⟨⟨b1, b2, b3⟩, y, ey, yl, hy⟩ := hP
        clear b3
        dsimp only at b1 b2 ey yl hy hend F' N'
        subst ey
        rw [restAt_end hend] at hy
        k_steps
        (rename Fr _ _ _ _ => lF'); (rename News _ _ _ _ => lN')
        exact rd_endE lF' lN' rfl (fun z h1 h2 => by simp only [kstB, if_neg h1, if_neg h2, List.contains_nil, Bool.false_eq_true, if_false]) ⟨⟨b1, rfl, fun _ => hend⟩, y, rfl, yl, hy.symm⟩ (by simp only [gmu, Bool.false_eq_true, if_false]; omega)
    · (rename (((⟨#[c]⟩ : Str) == Str.ofString "\\") = true) => hb')
      rw [is_b, beq_iff_eq] at hb'
      subst hb'
      (try dsimp only)
      (rename Fr _ _ _ _ => lF'); (rename News _ _ _ _ => lN')
      k_dflt (refine callWith_F0 ⟨_, _, _, _, lF'.keep _ _ (X₁ _ _ (by k_is))⟩ ?_)
      refine (wpAny_call (use_charG hl lF' lN' hfx hho X T rfl (by exact Nat.le_of_ble_eq_true rfl) (by exact Nat.le_of_ble_eq_true rfl) hx (pos := g3 + 1) (by omega) rfl hpi hpb ?_ ?_))
      · clear lF' lN'
        intro h₂ tk₂ tl₂ tp₂ na₂ d ty₂ hd F₂ N₂
        have hlt₂ : g3 + 1 < x.length := (Array.getElem?_eq_some_iff.mp hd).1
        rw [restAt_cons hd] at hy
        (try dsimp only)
        k_steps
        (rename Fr _ _ _ _ => lF'); (rename News _ _ _ _ => lN')
        rw [go_esc] at hy
        refine hold_in (citFor (Pin x isWs (go (restAt x pos))) ⟨_, tl₂, g3 + 1 + 1, tp₂, na₂, _, _, false⟩ hl lF' lN' rfl ⟨⟨hlt₂, rfl, fun e => by cases e⟩, [d], add_one, Nat.succ_le_succ (Nat.zero_le _), hy⟩ (fun g hg => hg.1) hfx hho X T hf hfd rfl (Nat.le_of_ble_eq_true rfl) (Nat.le_of_ble_eq_true rfl) hx hpi hpb (Ne.symm (neN (Nat.ne_of_lt hbi))) ?_ ?_ rfl rfl)
        · clear lF' lN' hy
          intro g u h tk c ty tl' tp' na' hP hen hc F' N'
          obtain ⟨g1, g2, g3, g4, g5, g6, g7, g8⟩ := g
          obtain ⟨⟨b1, b2, b3⟩, y, ey, yl, hy⟩ := hP
          clear b3
          dsimp only at b1 b2 ey yl hy hen hc F' N'
          subst hen
          subst ey
          have hlt : g3 < x.length := (Array.getElem?_eq_some_iff.mp hc).1
          rw [restAt_cons hc] at hy
          have htl : (⟨y.toArray⟩ : Str).length ≤ 90 := by show (y.toArray).size ≤ 90; rw [List.size_toArray]; omega
          k_steps
          · (rename (((⟨#[c]⟩ : Str) == Str.ofString "\\") = true) => hb')
            rw [is_b, beq_iff_eq] at hb'
            subst hb'
            (try dsimp only)
            (rename Fr _ _ _ _ => lF'); (rename News _ _ _ _ => lN')
            k_dflt (refine callWith_F0 ⟨_, _, _, _, lF'.keep _ _ (X₁ _ _ (by k_is))⟩ ?_)
            refine (wpAny_call (use_charG hl lF' lN' hfx hho X T rfl (by exact Nat.le_of_ble_eq_true rfl) (by exact Nat.le_of_ble_eq_true rfl) hx (pos := g3 + 1) (by omega) rfl hpi hpb ?_ ?_))
            · clear lF' lN'
              intro h₂ tk₂ tl₂ tp₂ na₂ d ty₂ hd F₂ N₂
              have hlt₂ : g3 + 1 < x.length := (Array.getElem?_eq_some_iff.mp hd).1
              rw [restAt_cons hd] at hy
              (try dsimp only)
              k_steps
              (rename Fr _ _ _ _ => lF'); (rename News _ _ _ _ => lN')
              rw [gs_esc (st := isWs) rfl] at hy
              exact rd_end lF' lN' rfl (fun z h1 h2 => by simp only [kstB, if_neg h1, if_neg h2, List.contains_nil, Bool.false_eq_true, if_false]) ⟨⟨hlt₂, rfl, fun e => by cases e⟩, y ++ [d], add_one, by rw [List.length_append, List.length_singleton]; dsimp only; omega, hy⟩ (by simp only [gmu, Bool.false_eq_true, if_false]; omega)
            · clear lF' lN'
              intro h₂ tk₂ tl₂ tp₂ na₂ ty₂ hd F₂ N₂
              rw [restAt_end hd] at hy
              rw [show Str.empty = Str.ofString "" by decide]
              (try dsimp only)
              k_steps
              (rename Fr _ _ _ _ => lF'); (rename News _ _ _ _ => lN')
              rw [gs_last (st := isWs) rfl] at hy
              exact rd_end lF' lN' rfl (fun z h1 h2 => by simp only [kstB, if_neg h1, if_neg h2, List.contains_nil, Bool.false_eq_true, if_false]) ⟨⟨hlt, rfl, fun e => by cases e⟩, y, add_none, by dsimp only; omega, by dsimp only; rw [restAt_end hd]; exact hy⟩ (by simp only [gmu, Bool.false_eq_true, if_false]; omega)
          · (rename ((PySem.Builtin.Str.occurrences _ (⟨#[c]⟩ : Str) _ _ _).isEmpty = true) => hn)
            (rename (((⟨#[c]⟩ : Str) == Str.ofString "\\") = false) => hb')
            replace hn : isWs c = false := by rw [ws_char] at hn; simpa using hn
            rw [is_b, beq_eq_false_iff_ne] at hb'
            rw [gs_add (st := isWs) hn hb'] at hy
            (rename Fr _ _ _ _ => lF'); (rename News _ _ _ _ => lN')
            exact rd_end lF' lN' rfl (fun z h1 h2 => by simp only [kstB, if_neg h1, if_neg h2, List.contains_nil, Bool.false_eq_true, if_false]) ⟨⟨hlt, rfl, fun e => by cases e⟩, y ++ [c], add_one, by rw [List.length_append, List.length_singleton]; dsimp only; omega, hy⟩ (by simp only [gmu, Bool.false_eq_true, if_false]; omega)
          · (rename ((PySem.Builtin.Str.occurrences _ (⟨#[c]⟩ : Str) _ _ _).isEmpty = false) => hq)
            replace hq : isWs c = true := by rw [ws_char] at hq; simpa using hq
            rw [gs_stop (st := isWs) hq] at hy
            exact fin h _ (citObj bm _) _ tl' (g3 + 1) tp' na' y g7 F' N' hlt hy.symm
        · clear lF' lN' hy
          intro g u h tk tl' tp' na' hP hend F' N'
          obtain ⟨g1, g2, g3, g4, g5, g6, g7, g8⟩ := g
          obtain ⟨⟨b1, b2, b3⟩, y, ey, yl, hy⟩ := hP
          clear b3
          dsimp only at b1 b2 ey yl hy hend F' N'
          subst ey
          rw [restAt_end hend] at hy
          k_steps
          (rename Fr _ _ _ _ => lF'); (rename News _ _ _ _ => lN')
          exact rd_endE lF' lN' rfl (fun z h1 h2 => by simp only [kstB, if_neg h1, if_neg h2, List.contains_nil, Bool.false_eq_true, if_false]) ⟨⟨b1, rfl, fun _ => hend⟩, y, rfl, yl, hy.symm⟩ (by simp only [gmu, Bool.false_eq_true, if_false]; omega)
      · clear lF' lN'
        intro h₂ tk₂ tl₂ tp₂ na₂ ty₂ hd F₂ N₂
        rw [restAt_end hd] at hy
        rw [show Str.empty = Str.ofString "" by decide]
        (try dsimp only)
        k_steps
        (rename Fr _ _ _ _ => lF'); (rename News _ _ _ _ => lN')
        rw [go_last] at hy
        refine hold_in (citFor (Pin x isWs (go (restAt x pos))) ⟨_, tl₂, g3 + 1, tp₂, na₂, _, _, false⟩ hl lF' lN' rfl ⟨⟨hlt, rfl, fun e => by cases e⟩, [], add_none, Nat.zero_le _, by dsimp only; rw [restAt_end hd]; exact hy⟩ (fun g hg => hg.1) hfx hho X T hf hfd rfl (Nat.le_of_ble_eq_true rfl) (Nat.le_of_ble_eq_true rfl) hx hpi hpb (Ne.symm (neN (Nat.ne_of_lt hbi))) ?_ ?_ rfl rfl)
        · clear lF' lN' hy
          intro g u h tk c ty tl' tp' na' hP hen hc F' N'
          obtain ⟨g1, g2, g3, g4, g5, g6, g7, g8⟩ := g
          obtain ⟨⟨b1, b2, b3⟩, y, ey, yl, hy⟩ := hP
          clear b3
          dsimp only at b1 b2 ey yl hy hen hc F' N'
          subst hen
          subst ey
          have hlt : g3 < x.length := (Array.getElem?_eq_some_iff.mp hc).1
          rw [restAt_cons hc] at hy
          have htl : (⟨y.toArray⟩ : Str).length ≤ 90 := by show (y.toArray).size ≤ 90; rw [List.size_toArray]; omega
          k_steps
          · (rename (((⟨#[c]⟩ : Str) == Str.ofString "\\") = true) => hb')
            rw [is_b, beq_iff_eq] at hb'
            subst hb'
            (try dsimp only)
            (rename Fr _ _ _ _ => lF'); (rename News _ _ _ _ => lN')
            k_dflt (refine callWith_F0 ⟨_, _, _, _, lF'.keep _ _ (X₁ _ _ (by k_is))⟩ ?_)
            refine (wpAny_call (use_charG hl lF' lN' hfx hho X T rfl (by exact Nat.le_of_ble_eq_true rfl) (by exact Nat.le_of_ble_eq_true rfl) hx (pos := g3 + 1) (by omega) rfl hpi hpb ?_ ?_))
            · clear lF' lN'
              intro h₂ tk₂ tl₂ tp₂ na₂ d ty₂ hd F₂ N₂
              have hlt₂ : g3 + 1 < x.length := (Array.getElem?_eq_some_iff.mp hd).1
              rw [restAt_cons hd] at hy
              (try dsimp only)
              k_steps
              (rename Fr _ _ _ _ => lF'); (rename News _ _ _ _ => lN')
              rw [gs_esc (st := isWs) rfl] at hy
              exact rd_end lF' lN' rfl (fun z h1 h2 => by simp only [kstB, if_neg h1, if_neg h2, List.contains_nil, Bool.false_eq_true, if_false]) ⟨⟨hlt₂, rfl, fun e => by cases e⟩, y ++ [d], add_one, by rw [List.length_append, List.length_singleton]; dsimp only; omega, hy⟩ (by simp only [gmu, Bool.false_eq_true, if_false]; omega)
            · clear lF' lN'
              intro h₂ tk₂ tl₂ tp₂ na₂ ty₂ hd F₂ N₂
              rw [restAt_end hd] at hy
              rw [show Str.empty = Str.ofString "" by decide]
              (try dsimp only)
              k_steps
              (rename Fr _ _ _ _ => lF'); (rename News _ _ _ _ => lN')
              rw [gs_last (st := isWs) rfl] at hy
              exact rd_end lF' lN' rfl (fun z h1 h2 => by simp only [kstB, if_neg h1, if_neg h2, List.contains_nil, Bool.false_eq_true, if_false]) ⟨⟨hlt, rfl, fun e => by cases e⟩, y, add_none, by dsimp only; omega, by dsimp only; rw [restAt_end hd]; exact hy⟩ (by simp only [gmu, Bool.false_eq_true, if_false]; omega)
          · (rename ((PySem.Builtin.Str.occurrences _ (⟨#[c]⟩ : Str) _ _ _).isEmpty = true) => hn)
            (rename (((⟨#[c]⟩ : Str) == Str.ofString "\\") = false) => hb')
            replace hn : isWs c = false := by rw [ws_char] at hn; simpa using hn
            rw [is_b, beq_eq_false_iff_ne] at hb'
            rw [gs_add (st := isWs) hn hb'] at hy
            (rename Fr _ _ _ _ => lF'); (rename News _ _ _ _ => lN')
            exact rd_end lF' lN' rfl (fun z h1 h2 => by simp only [kstB, if_neg h1, if_neg h2, List.contains_nil, Bool.false_eq_true, if_false]) ⟨⟨hlt, rfl, fun e => by cases e⟩, y ++ [c], add_one, by rw [List.length_append, List.length_singleton]; dsimp only; omega, hy⟩ (by simp only [gmu, Bool.false_eq_true, if_false]; omega)
          · (rename ((PySem.Builtin.Str.occurrences _ (⟨#[c]⟩ : Str) _ _ _).isEmpty = false) => hq)
            replace hq : isWs c = true := by rw [ws_char] at hq; simpa using hq
            rw [gs_stop (st := isWs) hq] at hy
            exact fin h _ (citObj bm _) _ tl' (g3 + 1) tp' na' y g7 F' N' hlt hy.symm
        · clear lF' lN' hy
          intro g u h tk tl' tp' na' hP hend F' N'
          obtain ⟨g1, g2, g3, g4, g5, g6, g7, g8⟩ := g
          obtain ⟨⟨b1, b2, b3⟩, y, ey, yl, hy⟩ := hP
          clear b3
          dsimp only at b1 b2 ey yl hy hend F' N'
          subst ey
          rw [restAt_end hend] at hy
          k_steps
          (rename Fr _ _ _ _ => lF'); (rename News _ _ _ _ => lN')
          exact rd_endE lF' lN' rfl (fun z h1 h2 => by simp only [kstB, if_neg h1, if_neg h2, List.contains_nil, Bool.false_eq_true, if_false]) ⟨⟨b1, rfl, fun _ => hend⟩, y, rfl, yl, hy.symm⟩ (by simp only [gmu, Bool.false_eq_true, if_false]; omega)
    · (rename ((PySem.Builtin.Str.occurrences _ (⟨#[c]⟩ : Str) _ _ _).isEmpty = true) => hwn)
      (rename (((⟨#[c]⟩ : Str) == Str.ofString "\"") = false) => hq)
      (rename (((⟨#[c]⟩ : Str) == Str.ofString "\\") = false) => hb')
      replace hwn : isWs c = false := by rw [ws_char] at hwn; simpa using hwn
      rw [is_q, beq_eq_false_iff_ne] at hq
      rw [is_b, beq_eq_false_iff_ne] at hb'
      rw [go_add hwn hq hb'] at hy
      (rename Fr _ _ _ _ => lF'); (rename News _ _ _ _ => lN')
      refine hold_in (citFor (Pin x isWs (go (restAt x pos))) ⟨_, tl', g3 + 1, tp', na', _, _, false⟩ hl lF' lN' rfl ⟨⟨hlt, rfl, fun e => by cases e⟩, [c], add_one, Nat.succ_le_succ (Nat.zero_le _), hy⟩ (fun g hg => hg.1) hfx hho X T hf hfd rfl (Nat.le_of_ble_eq_true rfl) (Nat.le_of_ble_eq_true rfl) hx hpi hpb (Ne.symm (neN (Nat.ne_of_lt hbi))) ?_ ?_ rfl rfl)
      · clear lF' lN' hy
        intro g u h tk c ty tl' tp' na' hP hen hc F' N'
        obtain ⟨g1, g2, g3, g4, g5, g6, g7, g8⟩ := g
        obtain ⟨⟨b1, b2, b3⟩, y, ey, yl, hy⟩ := hP
        clear b3
        dsimp only at b1 b2 ey yl hy hen hc F' N'
        subst hen
        subst ey
        have hlt : g3 < x.length := (Array.getElem?_eq_some_iff.mp hc).1
        rw [restAt_cons hc] at hy
        have htl : (⟨y.toArray⟩ : Str).length ≤ 90 := by show (y.toArray).size ≤ 90; rw [List.size_toArray]; omega
        k_steps
        · (rename (((⟨#[c]⟩ : Str) == Str.ofString "\\") = true) => hb')
          rw [is_b, beq_iff_eq] at hb'
          subst hb'
          (try dsimp only)
          (rename Fr _ _ _ _ => lF'); (rename News _ _ _ _ => lN')
          k_dflt (refine callWith_F0 ⟨_, _, _, _, lF'.keep _ _ (X₁ _ _ (by k_is))⟩ ?_)
          refine (wpAny_call (use_charG hl lF' lN' hfx hho X T rfl (by exact Nat.le_of_ble_eq_true rfl) (by exact Nat.le_of_ble_eq_true rfl) hx (pos := g3 + 1) (by omega) rfl hpi hpb ?_ ?_))
          · clear lF' lN'
            intro h₂ tk₂ tl₂ tp₂ na₂ d ty₂ hd F₂ N₂
            have hlt₂ : g3 + 1 < x.length := (Array.getElem?_eq_some_iff.mp hd).1
            rw [restAt_cons hd] at hy
            (try dsimp only)
            k_steps
            (rename Fr _ _ _ _ => lF'); (rename News _ _ _ _ => lN')
            rw [gs_esc (st := isWs) rfl] at hy
            exact rd_end lF' lN' rfl (fun z h1 h2 => by simp only [kstB, if_neg h1, if_neg h2, List.contains_nil, Bool.false_eq_true, if_false]) ⟨⟨hlt₂, rfl, fun e => by cases e⟩, y ++ [d], add_one, by rw [List.length_append, List.length_singleton]; dsimp only; omega, hy⟩ (by simp only [gmu, Bool.false_eq_true, if_false]; omega)
          · clear lF' lN'
            intro h₂ tk₂ tl₂ tp₂ na₂ ty₂ hd F₂ N₂
            rw [restAt_end hd] at hy
            rw [show Str.empty = Str.ofString "" by decide]
            (try dsimp only)
            k_steps
            (rename Fr _ _ _ _ => lF'); (rename News _ _ _ _ => lN')
            rw [gs_last (st := isWs) rfl] at hy
            exact rd_end lF' lN' rfl (fun z h1 h2 => by simp only [kstB, if_neg h1, if_neg h2, List.contains_nil, Bool.false_eq_true, if_false]) ⟨⟨hlt, rfl, fun e => by cases e⟩, y, add_none, by dsimp only; omega, by dsimp only; rw [restAt_end hd]; exact hy⟩ (by simp only [gmu, Bool.false_eq_true, if_false]; omega)
        · (rename ((PySem.Builtin.Str.occurrences _ (⟨#[c]⟩ : Str) _ _ _).isEmpty = true) => hn)
          (rename (((⟨#[c]⟩ : Str) == Str.ofString "\\") = false) => hb')
          replace hn : isWs c = false := by rw [ws_char] at hn; simpa using hn
          rw [is_b, beq_eq_false_iff_ne] at hb'
          rw [gs_add (st := isWs) hn hb'] at hy
          (rename Fr _ _ _ _ => lF'); (rename News _ _ _ _ => lN')
          exact rd_end lF' lN' rfl (fun z h1 h2 => by simp only [kstB, if_neg h1, if_neg h2, List.contains_nil, Bool.false_eq_true, if_false]) ⟨⟨hlt, rfl, fun e => by cases e⟩, y ++ [c], add_one, by rw [List.length_append, List.length_singleton]; dsimp only; omega, hy⟩ (by simp only [gmu, Bool.false_eq_true, if_false]; omega)
        · (rename ((PySem.Builtin.Str.occurrences _ (⟨#[c]⟩ : Str) _ _ _).isEmpty = false) => hq)
          replace hq : isWs c = true := by rw [ws_char] at hq; simpa using hq
          rw [gs_stop (st := isWs) hq] at hy
          exact fin h _ (citObj bm _) _ tl' (g3 + 1) tp' na' y g7 F' N' hlt hy.symm
      · clear lF' lN' hy
        intro g u h tk tl' tp' na' hP hend F' N'
        obtain ⟨g1, g2, g3, g4, g5, g6, g7, g8⟩ := g
        obtain ⟨⟨b1, b2, b3⟩, y, ey, yl, hy⟩ := hP
        clear b3
        dsimp only at b1 b2 ey yl hy hend F' N'
        subst ey
        rw [restAt_end hend] at hy
        k_steps
        (rename Fr _ _ _ _ => lF'); (rename News _ _ _ _ => lN')
        exact rd_endE lF' lN' rfl (fun z h1 h2 => by simp only [kstB, if_neg h1, if_neg h2, List.contains_nil, Bool.false_eq_true, if_false]) ⟨⟨b1, rfl, fun _ => hend⟩, y, rfl, yl, hy.symm⟩ (by simp only [gmu, Bool.false_eq_true, if_false]; omega)
    · (rename ((PySem.Builtin.Str.occurrences _ (⟨#[c]⟩ : Str) _ _ _).isEmpty = false) => hws)
      replace hws : isWs c = true := by rw [ws_char] at hws; simpa using hws
      rw [go_ws hws] at hy
      exact rd_end F' N' rfl (fun z h1 h2 => by simp only [kstB, if_neg h1, if_neg h2, List.contains_nil, Bool.false_eq_true, if_false]) ⟨⟨hlt, rfl, fun e => by cases e⟩, [], rfl, Nat.zero_le _, rfl, hy⟩ (by simp only [gmu, Bool.false_eq_true, if_false]; omega)
  · intro g u h tk tl' tp' na' hP hend F' N'
    obtain ⟨g1, g2, g3, g4, g5, g6, g7, g8⟩ := g
    obtain ⟨⟨b1, b2, b3⟩, y, ey, yl, hy⟩ := hP
    clear lF' lN' b3
    dsimp only at b1 b2 ey yl hy hend F' N'
    subst ey
    replace hy : go (restAt x pos) = (y, restAt x g3) := by
      rw [restAt_end hend]
      cases g8 with
      | true => rw [if_pos rfl] at hy; exact hy
      | false =>
        rw [if_neg (by decide)] at hy
        obtain ⟨rfl, hy⟩ := hy
        rw [← hy, restAt_end hend]; rfl
    k_steps
    (rename Fr _ _ _ _ => lF'); (rename News _ _ _ _ => lN')
    exact fin _ _ citEnd _ tl' g3 tp' na' y g7 lF' lN' b1 hy
end Mine
end

section
local macro_rules | `(tactic| intro $xs:term*) => do
  unless 0 < xs.size && xs.all (fun x => x.raw.isIdent || x.raw.isOfKind ``Lean.Parser.Term.hole) do Lean.Macro.throwUnsupported
  let rest (k : Nat) : Lean.MacroM (Lean.TSyntax `tactic) := let r := xs.extract k xs.size; if r.size == 0 then `(tactic| skip) else `(tactic| intro $r*)
  let mut ts := #[]
  for i in [0:min xs.size 8] do
    let k := min xs.size 8 - i
    let vs := (Array.range k).map fun i => Lean.mkIdent (Lean.Name.mkSimple s!"x{i}")
    let mut p : Lean.Term ← if k == 1 then `(Mine.pk ?ne ?P) else `(Mine.pk ?ne ($(Lean.mkIdent (.str `Mine s!"U{k}")) ?P))
    let mut as : Array Lean.Term := #[]
    for j in [0:k] do
      if j + 1 == k then as := as.push p
      else
        as := as.push (← `(Mine.q1 $p))
        p ← `(Mine.q2 $p)
    let ys : Array (Lean.TSyntax [`ident, `Lean.Parser.Term.hole]) := (xs.extract 0 k).map fun x => ⟨x.raw⟩
    ts := ts.push (← `(tactic| (with_reducible refine' no_implicit_lambda% ($(Lean.mkIdent (.str `Mine s!"cl{k}")) (P := ?P) ?ne ((?g : ∀ $vs*, ?P $vs*) $as*)); (case ne => repeat (first | exact inferInstance | exact Mine.ne_world | exact Mine.ne_around | exact Mine.ne_shared | exact Mine.ne_model | exact $(Lean.mkIdent `Mine.ne_lex) | refine Mine.ne_pair ?_ ?_ | exact Nonempty.intro (by assumption) | exact Nonempty.intro (by constructor <;> exact default))); intros $ys*; $(← rest k))))
  let y : Lean.TSyntax [`ident, `Lean.Parser.Term.hole] := ⟨xs[0]!.raw⟩
  ts := ts.push (← `(tactic| (intros $y; $(← rest 1))))
  let mut t := ts.back!
  for u in ts.pop.reverse do t ← `(tactic| first | $u:tactic | $t:tactic)
  return t
local macro_rules | `(tactic| walk_at "ListRest") => `(tactic| (with_unfolding_all first | (refine ListRest.succ ?_; intro it' h' tk' hit' F' N') | (refine ListRest.zero ?_; intro h' tk' F' N')))
local macro_rules | `(tactic| walk_at "callWith") => `(tactic| ((with_reducible show wpAny _ _ (callWith _ (Value.builtin _) (_ :: _) (backTo _ (starEach (_ :: _) _)) []) _ _ _); refine callWith_method1 ?_))

section
theorem Mine.top_off_PS : True := by
  w_top off
  trivial
local macro_rules | `(tactic| walk_at "idle") => `(tactic| skip)
local macro_rules | `(tactic| omega) => `(tactic| first | lia | omega (config := {}))
open PySem PySem.W PyProof.Rows PySem.Spec PySem.Calls
namespace Mine
open PyProof.Rows.LCg (lst lst_snoc NsObj ns_obj fr_but news_but)
theorem k_filledE : (hd.heap_39 = hd.heap_39) ∧ (PySem.Challenge.rw_re0068_01 = PySem.Challenge.rw_re0068_01) := by
  k_fill
  exact ⟨rfl, rfl⟩
local macro_rules | `(tactic| walk_at $k:str) => if ["call builtin:list.pop", "call builtin:list.append"].contains k.getString then `(tactic| (refine hold_of ?_)) else Lean.Macro.throwUnsupported

theorem pop_spec {prog : Program} {w : World} {s : Shared} {p : Program} {loose : List Str} {mean : ExcName → Option Value} {mg mb : Str → Option Value} {Q E : Value → Shared → Prop}
    {l : LexA} {x : Str} {line : Int} {tl : Tok} {v : Value} {vs : List Value} {np : Nat} {pos : Int} {tp : Tok} {na : Nat} (hl : l.Ok prog w x) (hv : vs.length ≤ 500)
    (hget : ∀ p ∈ l.objs w line tl (v :: vs) np pos tp na, s.heap.get? p.1 = some p.2) (X : (hd.heap_39 w.params).In (hid s (l.objs w line tl (v :: vs) np pos tp na))) (T : Top p loose mean mg mb (hid s (l.objs w line tl (v :: vs) np pos tp na)))
    (ret : ∀ h' tk np', Keeps (hid s (l.objs w line tl (v :: vs) np pos tp na)) h' → (∀ p ∈ l.objs w line tl vs np' pos tp na, h'.get? p.1 = some p.2) → Q v { s with heap := h', toks := tk }) :
    wpAny (model prog w) (AM 5) (call (.ref 70) [.ref l.xi]) Q E s := by
  revert prog w s p loose mean mg mb Q E l x line tl v vs np pos tp na hl hv hget X T ret
  show ∀ prog w s p loose mean mg mb Q E l x line tl v vs np pos tp na hl hv hget X T ret, _
  intro prog w s p loose mean mg mb Q E l x line tl v vs np pos tp na
  intros hl hv hget X T ret
  have hord := hl.ord
  obtain ⟨hsix, hfx, hho⟩ := hid_six hl hget
  revert hsix hfx hho
  intro hsix hfx hho
  have X₁ := X.keeps fun b o e => (hho b o e).1
  have T₁ := T.keeps fun b o e => (hho b o e).1
  k_dflt (refine' call_fnM (l.six w line tl (v :: vs) np pos tp na) hsix X₁ T₁ ?ho ?hcd ?hr ?hb ?hl ?_ ?c1 ?c2 ?c3 ?c4; (case ho => k_is); (case hcd => k_is); (case hr => decide); (case hb => exact BindsTo.of_eq rfl); (case hl => exact locs rfl); (case c1 => exact rfl); (case c2 => exact rfl); (case c3 => exact rfl); (case c4 => decide))
  intro L' h₁ hL' F' N' l'
  generalize hid s (l.six w line tl (v :: vs) np pos tp na) = hb at *
  generalize hid s (l.objs w line tl (v :: vs) np pos tp na) = ho at *
  (try dsimp only)
  skip
  k_steps
  (rename Fr _ _ _ _ => lF'); (rename News _ _ _ _ => lN')
  refine wpAny_truthy_list (items := (v :: vs).toArray) ⟨_, (lN' _ (.tail _ (.tail _ (.head _)))).1, rfl, _, rfl⟩ (by simp; omega) ?_
  intros
  rw [show ((v :: vs).toArray.isEmpty) = false by simp] at *
  k_steps
  (rename Fr _ _ _ _ => lF'); (rename News _ _ _ _ => lN')
  refine hold_in ?_
  k_dflt (refine' kl_popAt (its := (v :: vs).toArray) (k := 0) (p := []) (q := vs) (y := v) ?F ?N ?f ?k ?e ?U ?z ?_; (case F => k_asm); (case N => k_asm); (case f => decide); (case k => simp [seqIndex?]); (case e => rfl); (case U => k_upd); (case z => rw [PySem.sizeLine_eq]; simp; omega))
  clear lF' lN'
  intro h₂ F₂ N₂
  dsimp only [List.nil_append, List.cons_append] at N₂
  k_steps
  (rename Fr _ _ _ _ => F₇); (rename News _ _ _ _ => N₇)
  exact ret _ _ _ (fun b o e => F₇.keep b o (hho b o e).1) (six_objs N₇ fun q hq => F₇.keep _ _ (hfx q hq))

theorem push_spec {prog : Program} {w : World} {s : Shared} {p : Program} {loose : List Str} {mean : ExcName → Option Value} {mg mb : Str → Option Value} {Q E : Value → Shared → Prop}
    {l : LexA} {x : Str} {line : Int} {tl : Tok} {v : Value} {vs : List Value} {np : Nat} {pos : Int} {tp : Tok} {na : Nat} {y : Str} {ty : Tok} (hl : l.Ok prog w x) (hv : vs.length ≤ 500)
    (hget : ∀ p ∈ l.objs w line tl vs np pos tp na, s.heap.get? p.1 = some p.2) (X : (hd.heap_39 w.params).In (hid s (l.objs w line tl vs np pos tp na))) (T : Top p loose mean mg mb (hid s (l.objs w line tl vs np pos tp na)))
    (ret : ∀ h' tk np', Keeps (hid s (l.objs w line tl vs np pos tp na)) h' → (∀ p ∈ l.objs w line tl (vs ++ [.str y ty]) np' pos tp na, h'.get? p.1 = some p.2) → Q .none { s with heap := h', toks := tk }) :
    wpAny (model prog w) (AM 5) (call (.ref 77) [.ref l.xi, .str y ty]) Q E s := by
  revert prog w s p loose mean mg mb Q E l x line tl v vs np pos tp na y ty hl hv hget X T ret
  show ∀ prog w s p loose mean mg mb Q E l x line tl v vs np pos tp na y ty hl hv hget X T ret, _
  intro prog w s p loose mean mg mb Q E l x line tl v vs np pos tp na y ty
  intros hl hv hget X T ret
  have hord := hl.ord
  obtain ⟨hsix, hfx, hho⟩ := hid_six hl hget
  revert hsix hfx hho
  intro hsix hfx hho
  have X₁ := X.keeps fun b o e => (hho b o e).1
  have T₁ := T.keeps fun b o e => (hho b o e).1
  k_dflt (refine' call_fnM (l.six w line tl vs np pos tp na) hsix X₁ T₁ ?ho ?hcd ?hr ?hb ?hl ?_ ?c1 ?c2 ?c3 ?c4; (case ho => k_is); (case hcd => k_is); (case hr => decide); (case hb => exact BindsTo.of_eq rfl); (case hl => exact locs rfl); (case c1 => exact rfl); (case c2 => exact rfl); (case c3 => exact rfl); (case c4 => decide))
  intro L' h₁ hL' F' N' l'
  generalize hid s (l.six w line tl vs np pos tp na) = hb at *
  generalize hid s (l.objs w line tl vs np pos tp na) = ho at *
  (try dsimp only)
  skip
  k_steps
  refine hold_in ?_
  k_dflt (refine' append_K ?F ?N ?U ?_ ?z; (case F => k_asm); (case N => k_asm); (case U => k_upd); (case z => rw [PySem.sizeLine_eq]; simp; omega))
  intro h₂ F₂ N₂
  rw [List.push_toArray] at N₂
  clear F' N'
  k_steps
  (rename Fr _ _ _ _ => F₇); (rename News _ _ _ _ => N₇)
  exact ret _ _ _ (fun b o e => F₇.keep b o (hho b o e).1) (six_objs N₇ fun q hq => F₇.keep _ _ (hfx q hq))
end Mine
end

section
theorem Mine.top_off_FL : True := by
  w_top off
  trivial
local macro_rules | `(tactic| omega) => `(tactic| first | lia | omega (config := {}))
open PySem PySem.W PyProof.Rows PySem.Spec PySem.Calls
namespace Mine
open PyProof.Rows.LCg (lst lst_snoc NsObj ns_obj fr_but news_but)

theorem six_keys {w : World} {l : LexA} {line line' : Int} {tl tl' : Tok} {vs vs' : List Value} {np np' : Nat} {pos pos' : Int} {tp tp' : Tok} {na na' : Nat} {p : Addr × Obj} (h : p ∈ l.six w line' tl' vs' np' pos' tp' na') :
    ∃ q ∈ l.six w line tl vs np pos tp na, q.1 = p.1 := by
  have h2 : p.1 ∈ (l.six w line' tl' vs' np' pos' tp' na').map (·.1) := List.mem_map_of_mem (f := (·.1)) h
  have h3 : p.1 ∈ (l.six w line tl vs np pos tp na).map (·.1) := h2
  obtain ⟨q, hq, e⟩ := List.mem_map.mp h3
  exact ⟨q, hq, e⟩
theorem six_apart {w : World} {l : LexA} {line : Int} {tl : Tok} {vs : List Value} {np : Nat} {pos : Int} {tp : Tok} {na : Nat} (a : Addr) (ha : @LT.lt Nat _ l.pb a) (ho : (@LT.lt Nat _ l.al l.fs) ∧ (@LT.lt Nat _ l.fs l.ds) ∧ (@LT.lt Nat _ l.ds l.dx) ∧ (@LT.lt Nat _ l.dx l.xi) ∧ (@LT.lt Nat _ l.xi l.pb)) :
    ∀ q ∈ l.six w line tl vs np pos tp na, q.1 ≠ a := by
  refine List.forall_mem_cons.mpr ⟨?_, List.forall_mem_cons.mpr ⟨?_, List.forall_mem_cons.mpr ⟨?_, List.forall_mem_cons.mpr ⟨?_, List.forall_mem_cons.mpr ⟨?_, List.forall_mem_cons.mpr ⟨?_, List.forall_mem_nil _⟩⟩⟩⟩⟩⟩ <;> (refine neN ?_; dsimp only; omega)

/-- an address that is none of the lexer's -/
noncomputable def LAp (l : LexA) (a : Addr) : Prop := l.xi ≠ a ∧ l.dx ≠ a ∧ l.pb ≠ a ∧ l.fs ≠ a ∧ l.ds ≠ a ∧ l.al ≠ a
theorem six_ap {w : World} {l : LexA} {line : Int} {tl : Tok} {vs : List Value} {np : Nat} {pos : Int} {tp : Tok} {na : Nat} {a : Addr} (h : LAp l a) : ∀ q ∈ l.six w line tl vs np pos tp na, q.1 ≠ a :=
  List.forall_mem_cons.mpr ⟨h.1, List.forall_mem_cons.mpr ⟨h.2.1, List.forall_mem_cons.mpr ⟨h.2.2.1, List.forall_mem_cons.mpr ⟨h.2.2.2.1, List.forall_mem_cons.mpr ⟨h.2.2.2.2.1, List.forall_mem_cons.mpr ⟨h.2.2.2.2.2, List.forall_mem_nil _⟩⟩⟩⟩⟩⟩
theorem lap_of {w : World} {l : LexA} {line : Int} {tl : Tok} {vs : List Value} {np : Nat} {pos : Int} {tp : Tok} {na : Nat} {a : Addr} (h : ∀ q ∈ l.six w line tl vs np pos tp na, q.1 ≠ a) : LAp l a :=
  ⟨h _ (.head _), h _ (.tail _ (.head _)), h _ (.tail _ (.tail _ (.head _))), h _ (.tail _ (.tail _ (.tail _ (.head _)))), h _ (.tail _ (.tail _ (.tail _ (.tail _ (.head _))))), h _ (.tail _ (.tail _ (.tail _ (.tail _ (.tail _ (.head _))))))⟩

section
variable {prog : Program} {w : World} {A : Around} {s : Shared} {p : Program} {loose : List Str} {mean : ExcName → Option Value} {mg mb : Str → Option Value} {Q E : Value → Shared → Prop} {hb ho : Heap} {L : Addr} {m : Str → Option Value} {l : LexA} {x : Str} {rest : List (Addr × Obj)}
  {line : Int} {tl : Tok} {vs : List Value} {np : Nat} {pos : Int} {tp : Tok} {na : Nat}
theorem lex_get (F : Fr hb L s.heap m) (N : News hb L s.heap (l.six w line tl vs np pos tp na ++ rest)) (hfx : ∀ p ∈ l.fix, hb.get? p.1 = some p.2) : ∀ p ∈ l.objs w line tl vs np pos tp na, s.heap.get? p.1 = some p.2 := fun p hp => by
  rcases List.mem_append.mp (show p ∈ l.six w line tl vs np pos tp na ++ l.fix from hp) with hp | hp
  · exact (N p (List.mem_append_left _ hp)).1
  · exact F.keep _ _ (hfx p hp)
theorem lex_keep (F : Fr hb L s.heap m) (N : News hb L s.heap (l.six w line tl vs np pos tp na ++ rest)) (hho : ∀ b o, ho.get? b = some o → hb.get? b = some o ∧ ∀ p ∈ l.fix, p.1 ≠ b) :
    ∀ b o, ho.get? b = some o → (hid s (l.objs w line tl vs np pos tp na)).get? b = some o := fun b o e => hideAll_get _ (F.keep _ _ (hho b o e).1) fun q => by
  obtain ⟨p, hp, e2⟩ := List.mem_map.mp q
  rcases List.mem_append.mp (show p ∈ l.six w line tl vs np pos tp na ++ l.fix from hp) with hp | hp
  · have := (hho b o e).1
    rw [← e2, (N p (List.mem_append_left _ hp)).2.2] at this; cases this
  · exact (hho b o e).2 p hp e2
theorem lex_fr {h' : Heap} {line' : Int} {tl' : Tok} {vs' : List Value} {np' : Nat} {pos' : Int} {tp' : Tok} {na' : Nat} (hl : l.Ok prog w x) (F : Fr hb L s.heap m) (N : News hb L s.heap (l.six w line tl vs np pos tp na ++ rest)) (hr : ∀ p ∈ rest, LAp l p.1) (hfx : ∀ p ∈ l.fix, hb.get? p.1 = some p.2)
    (kp : Keeps (hid s (l.objs w line tl vs np pos tp na)) h') (ob : ∀ p ∈ l.objs w line' tl' vs' np' pos' tp' na', h'.get? p.1 = some p.2) : Fr hb L h' m ∧ News hb L h' (l.six w line' tl' vs' np' pos' tp' na' ++ rest) := by
  have kp2 : ∀ b o, (∀ q ∈ l.six w line tl vs np pos tp na, q.1 ≠ b) → (∀ p ∈ l.fix, p.1 ≠ b) → s.heap.get? b = some o → h'.get? b = some o := fun b o hb1 hb2 e => kp b o (hideAll_get _ e fun q => by
    obtain ⟨p, hp, e2⟩ := List.mem_map.mp q
    rcases List.mem_append.mp (show p ∈ l.six w line tl vs np pos tp na ++ l.fix from hp) with hp | hp
    · exact hb1 p hp e2
    · exact hb2 p hp e2)
  have kf : ∀ p ∈ l.fix, h'.get? p.1 = some p.2 := fun p hp => ob p (List.mem_append_right (l.six w line' tl' vs' np' pos' tp' na') hp)
  have hLf : ∀ p ∈ l.fix, p.1 ≠ L := fun p hp e => by
    have := Heap.get?_none_of_le (h := hb) (Nat.le_trans F.above (Nat.le_refl L))
    have z := hfx p hp
    rw [e, this] at z; cases z
  refine ⟨⟨F.ns.at' fun o e => kp2 _ o (fun q hq => (N q (List.mem_append_left _ hq)).2.1) hLf e, fun b o e => ?_, F.above⟩, fun p hp => ?_⟩
  · by_cases hq : ∃ p ∈ l.fix, p.1 = b
    · obtain ⟨p, hp, rfl⟩ := hq
      have z := hfx p hp
      rw [e] at z; cases z
      exact kf p hp
    · exact kp2 b o (fun q hq2 q' => by rw [← q', (N q (List.mem_append_left _ hq2)).2.2] at e; cases e) (fun p hp e2 => hq ⟨p, hp, e2⟩) (F.keep b o e)
  · rcases List.mem_append.mp hp with hp | hp
    · refine ⟨ob p (List.mem_append_left _ hp), ?_⟩
      obtain ⟨q, hq, e2⟩ := six_keys (line := line) (tl := tl) (vs := vs) (np := np) (pos := pos) (tp := tp) (na := na) hp
      exact e2 ▸ (N q (List.mem_append_left _ hq)).2
    · have z := N p (List.mem_append_right _ hp)
      refine ⟨kp2 _ _ (six_ap (hr p hp)) (fun q hq e => ?_) z.1, z.2⟩
      have := hfx q hq
      rw [e, z.2.2] at this; cases this

theorem use_push {y : Str} {ty : Tok} (hl : l.Ok prog w x) (F : Fr hb L s.heap m) (N : News hb L s.heap (l.six w line tl vs np pos tp na ++ rest)) (hr : ∀ p ∈ rest, LAp l p.1) (hfx : ∀ p ∈ l.fix, hb.get? p.1 = some p.2)
    (hho : ∀ b o, ho.get? b = some o → hb.get? b = some o ∧ ∀ p ∈ l.fix, p.1 ≠ b) (X : (hd.heap_39 w.params).In ho) (T : Top p loose mean mg mb ho) (hh : A.handled = none) (hdp : A.depth ≤ 350) (hun : A.units ≤ 500) (hv : vs.length ≤ 500)
    (ret : ∀ h' tk np', Fr hb L h' m → News hb L h' (l.six w line tl (vs ++ [.str y ty]) np' pos tp na ++ rest) → Q .none { s with heap := h', toks := tk }) :
    wpAny (model prog w) A (call (.ref 77) [.ref l.xi, .str y ty]) Q E s :=
  am_weak (n := 5) (push_spec (v := .none) hl hv (lex_get F N hfx) (X.keeps (lex_keep F N hho)) (T.keeps (lex_keep F N hho)) fun h' tk np' kp ob => by
    obtain ⟨F', N'⟩ := lex_fr hl F N hr hfx kp ob
    exact ret h' tk np' F' N') hh hdp hun
theorem use_pop {v : Value} (hl : l.Ok prog w x) (F : Fr hb L s.heap m) (N : News hb L s.heap (l.six w line tl (v :: vs) np pos tp na ++ rest)) (hr : ∀ p ∈ rest, LAp l p.1) (hfx : ∀ p ∈ l.fix, hb.get? p.1 = some p.2)
    (hho : ∀ b o, ho.get? b = some o → hb.get? b = some o ∧ ∀ p ∈ l.fix, p.1 ≠ b) (X : (hd.heap_39 w.params).In ho) (T : Top p loose mean mg mb ho) (hh : A.handled = none) (hdp : A.depth ≤ 350) (hun : A.units ≤ 500) (hv : vs.length ≤ 500)
    (ret : ∀ h' tk np', Fr hb L h' m → News hb L h' (l.six w line tl vs np' pos tp na ++ rest) → Q v { s with heap := h', toks := tk }) :
    wpAny (model prog w) A (call (.ref 70) [.ref l.xi]) Q E s :=
  am_weak (n := 5) (pop_spec hl hv (lex_get F N hfx) (X.keeps (lex_keep F N hho)) (T.keeps (lex_keep F N hho)) fun h' tk np' kp ob => by
    obtain ⟨F', N'⟩ := lex_fr hl F N hr hfx kp ob
    exact ret h' tk np' F' N') hh hdp hun
theorem use_tokenG {pos : Nat} (hl : l.Ok prog w x) (F : Fr hb L s.heap m) (N : News hb L s.heap (l.six w line tl [] np (pos : Int) tp na ++ rest)) (hr : ∀ p ∈ rest, LAp l p.1) (hfx : ∀ p ∈ l.fix, hb.get? p.1 = some p.2)
    (hho : ∀ b o, ho.get? b = some o → hb.get? b = some o ∧ ∀ p ∈ l.fix, p.1 ≠ b) (X : (hd.heap_39 w.params).In ho) (T : Top p loose mean mg mb ho) (hh : A.handled = none) (hdp : A.depth ≤ 350) (hun : A.units ≤ 500)
    (hx : x.length ≤ 90) (hp1 : pos ≤ x.length) (hline : line = lineAt x pos)
    (ret : ∀ h' tk tl' tp' na' pos' y ty, Fr hb L h' m → News hb L h' (l.six w (lineAt x pos') tl' [] np (pos' : Int) tp' na' ++ rest) → pos' ≤ x.length → go (restAt x pos) = (y, restAt x pos') → Q (.str ⟨y.toArray⟩ ty) { s with heap := h', toks := tk }) :
    wpAny (model prog w) A (call (.ref 70) [.ref l.xi]) Q E s :=
  am_weak (n := 5) (token_spec hl (lex_get F N hfx) (X.keeps (lex_keep F N hho)) (T.keeps (lex_keep F N hho)) hx hp1 hline fun h' tk tl' tp' na' pos' y ty kp ob h1 h2 => by
    obtain ⟨F', N'⟩ := lex_fr hl F N hr hfx kp ob
    exact ret h' tk tl' tp' na' pos' y ty F' N' h1 h2) hh hdp hun

/-- what is asked of a row whose moves are sought -/
noncomputable def mOk (n : Nat) (t : Str) : Bool := decide (t.length = 2 * n) && (unitsF t n).all (fun u => decide (u.length = 2)) && (List.range n).all (fun k => k == 0 || !(movAt (unitsF t n) k) || movOk (unitsF t n) k n (k + 2))
noncomputable def mvs (n : Nat) (t : Str) : List Str := movedTo (unitsF t n) (n - 1)
theorem use_moved {t : Str} {tt : Tok} {n : Nat} {news : List (Addr × Obj)} (F : Fr hb L s.heap m) (N : News hb L s.heap news) (hb' : ∀ b o, ho.get? b = some o → hb.get? b = some o) (X : (hd.heap_39 w.params).In ho) (T : Top p loose mean mg mb ho) (hh : A.handled = none) (hdp : A.depth ≤ 350) (hun : A.units ≤ 500)
    (hn : n ≤ 8) (hm : mOk n t = true)
    (ret : ∀ h' tk g r vs nn, Fr hb L h' m → News hb L h' ((r, W.listOf vs.toArray nn) :: news) → (∀ p ∈ news, p.1 ≠ r) → (AllBare s.gens → AllBare g) → StrsAre vs (mvs n t) → Q (.ref r) { s with heap := h', toks := tk, gens := g }) :
    wpAny (model prog w) A (call (.ref 120) [.str t tt]) Q E s := by
  have kk : ∀ b o, ho.get? b = some o → s.heap.get? b = some o := fun b o e => F.keep b o (hb' b o e)
  unfold mOk at hm
  simp only [Bool.and_eq_true, decide_eq_true_eq, List.all_eq_true] at hm
  obtain ⟨⟨h1, h2⟩, h3⟩ := hm
  refine am_weak (n := 5) (moved_spec (n := n) (by omega) h1 h2 (fun k hk1 hk2 hat => ?_) (X.keeps kk) (T.keeps kk) fun h' tk g r vs nn kp hg hr hget hs => ?_) hh hdp hun
  · have := h3 k.toNat (List.mem_range.mpr (by omega))
    have e : ((k.toNat : Nat) : Int) = k := by omega
    rw [e] at this
    have hk0 : (k.toNat == 0) = false := by rw [beq_eq_false_iff_ne]; omega
    simpa [hk0, hat] using this
  · have hr' : hb.get? r = none := by
      cases q : hb.get? r with
      | none => rfl
      | some o => have := F.keep r o q; rw [hr] at this; cases this
    have hrL : r ≠ L := fun e => by
      obtain ⟨o, _, _, hgo, _⟩ := F.ns
      rw [← e, hr] at hgo; cases hgo
    refine ret h' tk g r vs nn (fr_kp F kp) (fun p hp => ?_) (fun p hp e => ?_) hg hs
    · rcases List.mem_cons.mp hp with rfl | hp
      · exact ⟨hget, hrL, hr'⟩
      · exact news_kp N kp p hp
    · have := (N p hp).1
      rw [e, hr] at this; cases this
end

/-- one turn of the flood: what is new is kept and waits -/
noncomputable def floodAdd (rq : List Str × List Str) (one : Str) : List Str × List Str := if rq.1.contains one then rq else (rq.1 ++ [one], rq.2 ++ [one])
noncomputable def floodF (n : Nat) : Nat → List Str → List Str → List Str
  | 0, r, _ => r
  | _ + 1, r, [] => r
  | k + 1, r, t :: q => floodF n k ((mvs n t).foldl floodAdd (r, q)).1 ((mvs n t).foldl floodAdd (r, q)).2
noncomputable def floodOk (n : Nat) : Nat → List Str → List Str → Bool
  | 0, _, _ => false
  | _ + 1, r, [] => true
  | k + 1, r, t :: q => mOk n t && decide (0 < n) && decide ((mvs n t).length ≤ 20) && floodOk n k ((mvs n t).foldl floodAdd (r, q)).1 ((mvs n t).foldl floodAdd (r, q)).2
end Mine
end

section
theorem Mine.top_off_FW : True := by
  w_top off
  trivial
local macro_rules | `(tactic| walk_at "idle") => `(tactic| skip)
local macro_rules | `(tactic| omega) => `(tactic| first | lia | omega (config := {}))
open PySem PySem.W PyProof.Rows PySem.Spec PySem.Calls
namespace Mine
open PyProof.Rows.LCg (lst lst_snoc NsObj ns_obj fr_but news_but)
theorem k_filledF : (hd.heap_39 = hd.heap_39) ∧ (PySem.Challenge.rw_re0068_01 = PySem.Challenge.rw_re0068_01) := by
  k_fill
  exact ⟨rfl, rfl⟩
theorem news_sub {hb h : Heap} {L : Addr} {a b : List (Addr × Obj)} (N : News hb L h a) (hs : ∀ p ∈ b, p ∈ a) : News hb L h b := fun p hp => N p (hs p hp)
theorem flood_any {r : List Str} {one : Str} : r.any (· == one) = r.contains one := by
  rw [Bool.eq_iff_iff]; simp [List.any_eq_true]
theorem flood_take {ones : List Str} {i : Nat} {one : Str} {rq : List Str × List Str} (h : ones[i]? = some one) : (ones.take (i + 1)).foldl floodAdd rq = floodAdd ((ones.take i).foldl floodAdd rq) one := by
  rw [List.take_add_one, h, List.foldl_append]; rfl
theorem rest_nil {x : Str} {k : Nat} (h : restAt x k = []) (hk : k ≤ x.length) : k = x.length := by
  unfold restAt at h
  have h2 := List.drop_eq_nil_iff.mp h
  have h3 : x.length = x.cps.toList.length := by simp [Str.length]
  omega
local macro_rules | `(tactic| walk_at $k:str) => if ["call builtin:list.append", "And", "call ref", "pyIter ref", "exec While Compare cons nil"].contains k.getString then `(tactic| (refine hold_of ?_)) else Lean.Macro.throwUnsupported
local macro_rules | `(tactic| walk_at "exec For Name Call cons nil") => `(tactic| (k_dflt (refine wpAny_For ?_ (by intro _; rfl))))

structure FlS where
  r : List Str
  q : List Str
  rv : List Value
  qv : List Value
  tok : Str
  tt : Tok
  line : Int
  tl : Tok
  np : Nat
  tp : Tok
  na : Nat
  nn : Nat
  f : Nat
theorem strs_at {vs : List Value} {ws : List Str} (h : StrsAre vs ws) : ∀ {i : Nat} {v : Value}, vs[i]? = some v → ∃ y t, v = .str y t ∧ ws[i]? = some y := by
  induction h with
  | nil => intros i v e; cases i <;> cases e
  | cons x t _ ih =>
    intros i v e
    cases i with
    | zero => cases e; exact ⟨x, t, rfl, rfl⟩
    | succ i => exact ih e
theorem flood_len {ones : List Str} : ∀ rq : List Str × List Str, (ones.foldl floodAdd rq).1.length ≤ rq.1.length + ones.length ∧ (ones.foldl floodAdd rq).2.length ≤ rq.2.length + ones.length := by
  induction ones with
  | nil => intros rq; exact ⟨Nat.le_refl _, Nat.le_refl _⟩
  | cons a r ih =>
    intros rq
    have := ih (floodAdd rq a)
    have h1 : (floodAdd rq a).1.length ≤ rq.1.length + 1 ∧ (floodAdd rq a).2.length ≤ rq.2.length + 1 := by
      unfold floodAdd; split
      · constructor <;> omega
      · simp
    simp only [List.foldl_cons, List.length_cons]
    omega
noncomputable def FlP (n : Nat) (R : List Str) (line : Int) (K : Nat) (c : FlS) : Prop :=
  c.line = line ∧ StrsAre c.rv c.r ∧ StrsAre c.qv c.q ∧ c.r.length + 20 * c.f ≤ 20 * K + 1 ∧ c.q.length + 20 * c.f ≤ 20 * K + 1 ∧
    ((floodOk n c.f c.r (c.tok :: c.q) = true ∧ floodF n c.f c.r (c.tok :: c.q) = R) ∨ (c.tok = Str.ofString "" ∧ c.q = [] ∧ c.r = R ∧ c.f = 0))
theorem fl_ne {n f : Nat} {t : Str} {r q : List Str} (h : floodOk n f r (t :: q) = true) : (t == Str.ofString "") = false ∧ ∃ k, f = k + 1 ∧ mOk n t = true ∧ (mvs n t).length ≤ 20 ∧ floodOk n k ((mvs n t).foldl floodAdd (r, q)).1 ((mvs n t).foldl floodAdd (r, q)).2 = true := by
  cases f with
  | zero => cases h
  | succ k =>
    simp only [floodOk, Bool.and_eq_true, decide_eq_true_eq] at h
    obtain ⟨⟨⟨h1, h2⟩, h3⟩, h4⟩ := h
    refine ⟨?_, k, rfl, h1, h3, h4⟩
    rw [beq_eq_false_iff_ne]
    rintro rfl
    unfold mOk at h1
    simp only [Bool.and_eq_true, decide_eq_true_eq] at h1
    have := h1.1.1
    have e : (Str.ofString "").length = 0 := rfl
    omega
theorem flood_spec {prog : Program} {w : World} {s : Shared} {p : Program} {loose : List Str} {mean : ExcName → Option Value} {mg mb : Str → Option Value} {Q E : Value → Shared → Prop}
    {l : LexA} {x : Str} {line : Int} {tl : Tok} {np : Nat} {tp : Tok} {na : Nat} {row : Str} {t : Tok} {n K : Nat} (hK2 : K ≤ 20) (hl : l.Ok prog w x) (hn : n ≤ 8) (hK : floodOk n K [row] [row] = true)
    (hget : ∀ p ∈ l.objs w line tl [] np ((x.length : Nat) : Int) tp na, s.heap.get? p.1 = some p.2) (X : (hd.heap_39 w.params).In (hid s (l.objs w line tl [] np ((x.length : Nat) : Int) tp na))) (T : Top p loose mean mg mb (hid s (l.objs w line tl [] np ((x.length : Nat) : Int) tp na)))
    (hx : x.length ≤ 90) (hline : line = lineAt x x.length)
    (ret : ∀ h' tk g tl' np' tp' na' r vs nn, Keeps (hid s (l.objs w line tl [] np ((x.length : Nat) : Int) tp na)) h' → (∀ p ∈ l.objs w line tl' [] np' ((x.length : Nat) : Int) tp' na', h'.get? p.1 = some p.2) → (AllBare s.gens → AllBare g) →
      (hid s (l.objs w line tl [] np ((x.length : Nat) : Int) tp na)).get? r = none → LAp l r ∧ (∀ p ∈ l.fix, p.1 ≠ r) → h'.get? r = some (W.listOf vs.toArray nn) → StrsAre vs (floodF n K [row] [row]) → Q (.ref r) { s with heap := h', toks := tk, gens := g }) :
    wpAny (model prog w) (AM 4) (call (.ref 127) [.ref l.xi, .str row t]) Q E s := by
  revert prog w s p loose mean mg mb Q E l x line tl np tp na row t n K hK2 hl hn hK hget X T hx hline ret
  show ∀ prog w s p loose mean mg mb Q E l x line tl np tp na row t n K hK2 hl hn hK hget X T hx hline ret, _
  intro prog w s p loose mean mg mb Q E l x line tl np tp na row t n K
  intros hK2 hl hn hK hget X T hx hline ret
  have hord := hl.ord
  obtain ⟨hsix, hfx, hho⟩ := hid_six hl hget
  revert hsix hfx hho
  intro hsix hfx hho
  have X₁ := X.keeps fun b o e => (hho b o e).1
  have T₁ := T.keeps fun b o e => (hho b o e).1
  k_dflt (refine' call_fnM (l.six w line tl [] np ((x.length : Nat) : Int) tp na) hsix X₁ T₁ ?ho ?hcd ?hr ?hb ?hl ?_ ?c1 ?c2 ?c3 ?c4; (case ho => k_is); (case hcd => k_is); (case hr => decide); (case hb => exact BindsTo.of_eq rfl); (case hl => exact locs rfl); (case c1 => exact rfl); (case c2 => exact rfl); (case c3 => exact rfl); (case c4 => decide))
  intro L' h₁ hL' F' N' l'
  have hkn : ∀ b o, (hid s (l.objs w line tl [] np ((x.length : Nat) : Int) tp na)).get? b = some o → (hid s (l.six w line tl [] np ((x.length : Nat) : Int) tp na)).get? b = some o := fun b o e => (hho b o e).1
  generalize hid s (l.six w line tl [] np ((x.length : Nat) : Int) tp na) = hb at *
  generalize hid s (l.objs w line tl [] np ((x.length : Nat) : Int) tp na) = ho at *
  (try dsimp only)
  skip
  k_steps
  refine hold_in ⟨X₁.keeps F'.keep, ?_⟩
  (try dsimp only [List.nil_append, List.cons_append])
  refine use_push (rest := []) hl F' (by rw [List.append_nil]; exact N') (List.forall_mem_nil _) hfx hho X T rfl (Nat.le_of_ble_eq_true rfl) (Nat.le_of_ble_eq_true rfl) (Nat.zero_le _) ?_
  intro h₂ tk₂ np₂ F₂ N₂
  rw [List.append_nil, List.nil_append] at N₂
  clear F' N'
  k_steps
  (rename Fr _ _ _ _ => lF'); (rename News _ _ _ _ => lN')
  (try dsimp only)
  k_dflt (refine callWith_F0 ⟨_, _, _, _, lF'.keep _ _ (X₁ _ _ (by k_is))⟩ ?_)
  (try dsimp only [List.nil_append, List.cons_append])
  rename_i ra h₃ l1 h₄
  refine use_pop (vs := []) (rest := [(ra, W.listOf [Value.str row t].toArray 0)]) hl lF' (news_sub lN' (by lcg_sub)) (List.forall_mem_cons.mpr ⟨lap_of (six_apart (w := w) (line := line) (tl := tl) (vs := []) (np := np) (pos := 0) (tp := tp) (na := na) _ l1.2.2.1 hord), List.forall_mem_nil _⟩) hfx hho X T rfl (Nat.le_of_ble_eq_true rfl) (Nat.le_of_ble_eq_true rfl) (Nat.zero_le _) ?_
  clear lF' lN'
  intro h₅ tk₆ np₅ F₅ N₅
  have hra : LAp l ra := lap_of (six_apart (w := w) (line := line) (tl := tl) (vs := []) (np := np) (pos := 0) (tp := tp) (na := na) _ l1.2.2.1 hord)
  (try dsimp only)
  k_steps
  (rename Fr _ _ _ _ => lF'); (rename News _ _ _ _ => lN')
  refine hold_in (whileG (σ := FlS) (fun c => l.six w c.line c.tl c.qv c.np ((x.length : Nat) : Int) c.tp c.na ++ [(ra, W.listOf c.rv.toArray c.nn)]) (fun c => [(Str.ofString "token", .str c.tok c.tt)]) [Str.ofString "one"]
    (FlP n (floodF n K [row] [row]) line K) (fun c => c.f) ⟨[row], [], [Value.str row t], [], row, t, line, tl, np₅, tp, na, 0, K⟩ lF' lN' (List.forall_mem_cons.mpr ⟨rfl, List.forall_mem_nil _⟩) ⟨rfl, .cons _ _ .nil, .nil, by dsimp only [List.length_cons, List.length_nil]; omega, by dsimp only [List.length_cons, List.length_nil]; omega, .inl ⟨hK, rfl⟩⟩ ?_)
  clear lF' lN'
  intros c
  obtain ⟨r, q, rv, qv, tok, tt, line', tl', np', tp', na', nn, f⟩ := c
  revert r q rv qv tok tt line' tl' np' tp' na' nn f
  intro r q rv qv tok tt line' tl' np' tp' na' nn f u h tk g hP hg F' N'
  obtain ⟨el, hrv, hqv, hlr, hlq, hcase⟩ := hP
  revert el hrv hqv hlr hlq hcase
  intro el hrv hqv hlr hlq hcase
  dsimp only at el hrv hqv hlr hlq hcase F' N'
  subst el
  rcases hcase with ⟨hfo, hff⟩ | ⟨rfl, rfl, hrR, rfl⟩
  · obtain ⟨htn, k, hr1, hmo, hml, hfo'⟩ := fl_ne hfo
    revert htn k hr1 hmo hml hfo'
    intro htn k hr1 hmo hml hfo'
    obtain rfl := hr1
    clear hfo
    k_steps
    · (rename Fr _ _ _ _ => lF'); (rename News _ _ _ _ => lN')
      refine hold_in ⟨X₁.keeps lF'.keep, ?_⟩
      refine use_moved lF' lN' hkn X T rfl (Nat.le_of_ble_eq_true rfl) (Nat.le_of_ble_eq_true rfl) hn hmo ?_
      intro h₇ tk₇ g₇ ma mv mn F₇ N₇ hma hg₇ hms
      clear lF' lN'
      have hpm : LAp l ma := lap_of fun q hq => hma q (List.mem_append_left _ hq)
      have hmr : @Ne Nat ra ma := hma _ (List.mem_append_right _ (.head _))
      have zma := N₇ _ (.head _)
      have hml2 := StrsAre.length hms
      refine hold_in (forG_list (σ := FlS) (fun c => l.six w c.line c.tl c.qv c.np ((x.length : Nat) : Int) c.tp c.na ++ [(ra, W.listOf c.rv.toArray c.nn), (ma, W.listOf mv.toArray mn)]) (fun _ => []) []
        (fun i c => c.line = line' ∧ StrsAre c.rv c.r ∧ StrsAre c.qv c.q ∧ (c.r, c.q) = ((mvs n tok).take i).foldl floodAdd (r, q)) ⟨r, q, rv, qv, tok, tt, line', tl', np', tp', na', nn, k⟩ rfl ⟨_, zma.1, rfl, _, rfl⟩ (.inr ⟨_, fun c => List.mem_append_right _ (.tail _ (.head _))⟩) zma.2.1 F₇ (news_sub N₇ (by lcg_sub)) (List.forall_mem_nil _) ⟨rfl, hrv, hqv, rfl⟩ ?_ ?_ rfl rfl)
      · clear F₇ N₇
        intros c
        obtain ⟨r₂, q₂, rv₂, qv₂, xu2, xu3, line₂, tl₂, np₂, tp₂, na₂, nn₂, xu4⟩ := c
        revert r₂ q₂ rv₂ qv₂ xu2 xu3 line₂ tl₂ np₂ tp₂ na₂ nn₂ xu4
        intro r₂ q₂ rv₂ qv₂ xu2 xu3 line₂ tl₂ np₂ tp₂ na₂ nn₂ xu4 i v u₂ h₈ tk₈ g₈ I oI hi hv hP hg₈ hne F₈ N₈
        obtain ⟨el₂, hrv₂, hqv₂, hrq⟩ := hP
        revert el₂ hrv₂ hqv₂ hrq
        intro el₂ hrv₂ hqv₂ hrq
        dsimp only at el₂ hrv₂ hqv₂ hrq F₈ N₈ hne
        subst el₂
        obtain ⟨one, t1, hr5, hone⟩ := strs_at hms (by simpa using hv)
        revert one t1 hr5 hone
        intro one t1 hr5 hone
        obtain rfl := hr5
        have hlen := flood_len (ones := (mvs n tok).take i) (r, q)
        rw [← hrq, List.length_take] at hlen
        dsimp only at hlen
        have hl1 := StrsAre.length hrv₂
        have hl2 := StrsAre.length hqv₂
        have hIr : ra ≠ I := hne (ra, W.listOf rv₂.toArray nn₂) (List.mem_append_right _ (.head _))
        have hIm : ma ≠ I := hne (ma, W.listOf mv.toArray mn) (List.mem_append_right _ (.tail _ (.head _)))
        have hIl : LAp l I := lap_of fun q hq => hne q (List.mem_append_left _ hq)
        have zra := N₈ (ra, W.listOf rv₂.toArray nn₂) (List.mem_append_left _ (List.mem_append_right _ (.head _)))
        simp only [List.append_assoc, List.cons_append, List.nil_append] at N₈
        k_steps
        · rename (r₂.any fun x => x == one) = true => hcon
          rw [flood_any] at hcon
          (rename Fr _ _ _ _ => lF'); (rename News _ _ _ _ => lN')
          refine g_end ⟨r₂, q₂, rv₂, qv₂, tok, tt, line₂, tl₂, np₂, tp₂, na₂, nn₂, k⟩ lF' lN' (fun b => hg₈ b) ?_ ?_ (List.forall_mem_append.mpr ⟨six_ap hIl, List.forall_mem_cons.mpr ⟨hIr, List.forall_mem_cons.mpr ⟨hIm, List.forall_mem_nil _⟩⟩⟩) (List.forall_mem_nil _) (fun z hz1 hz2 hc => ?_) ⟨rfl, hrv₂, hqv₂, ?_⟩
          · dsimp only
            lcg_sub
          · exact (by lcg_sub : ∀ p ∈ [(I, oI)], p ∈ _) _ (.head _)
          · simp only [kstB, if_neg hz1, List.contains_nil, Bool.false_eq_true, if_false]
          · rw [flood_take hone, ← hrq]
            unfold floodAdd
            rw [if_pos hcon]
        · rename (r₂.any fun x => x == one) = false => hcon
          rw [flood_any] at hcon
          (rename Fr _ _ _ _ => lF'); (rename News _ _ _ _ => lN')
          have a1 : @Ne Nat l.xi ra := hra.1
          have a2 : @Ne Nat l.dx ra := hra.2.1
          have a3 : @Ne Nat l.pb ra := hra.2.2.1
          have a4 : @Ne Nat l.fs ra := hra.2.2.2.1
          have a5 : @Ne Nat l.ds ra := hra.2.2.2.2.1
          have a6 : @Ne Nat l.al ra := hra.2.2.2.2.2
          have a7 : @Ne Nat ra I := hIr
          refine hold_in ?_
          k_dflt (refine' append_K (its := rv₂.toArray) (n := nn₂) ?F ?N ?U ?_ ?z; (case F => k_asm); (case N => k_asm); (case U => k_upd); (case z => rw [PySem.sizeLine_eq]; simp; omega))
          intro h₉ F₉ N₉
          rw [List.push_toArray] at N₉
          clear lF' lN'
          k_steps
          (rename Fr _ _ _ _ => lF'); (rename News _ _ _ _ => lN')
          refine hold_in ⟨X₁.keeps lF'.keep, ?_⟩
          (try dsimp only [List.nil_append, List.cons_append])
          refine use_push (rest := [(ra, W.listOf (rv₂ ++ [Value.str one t1]).toArray (nn₂ + 1)), (ma, W.listOf mv.toArray mn), (I, oI)]) hl lF' (news_sub lN' (by lcg_sub)) (List.forall_mem_cons.mpr ⟨hra, List.forall_mem_cons.mpr ⟨hpm, List.forall_mem_cons.mpr ⟨hIl, List.forall_mem_nil _⟩⟩⟩) hfx hho X T rfl (Nat.le_of_ble_eq_true rfl) (Nat.le_of_ble_eq_true rfl) (by omega) ?_
          intro h₁₀ tk₁₀ np₁₀ F₁₀ N₁₀
          clear lF' lN'
          k_steps
          (rename Fr _ _ _ _ => lF'); (rename News _ _ _ _ => lN')
          refine g_end ⟨r₂ ++ [one], q₂ ++ [one], rv₂ ++ [Value.str one t1], qv₂ ++ [Value.str one t1], tok, tt, line₂, tl₂, np₁₀, tp₂, na₂, nn₂ + 1, k⟩ lF' lN' (fun b => hg₈ b) ?_ ?_ (List.forall_mem_append.mpr ⟨six_ap hIl, List.forall_mem_cons.mpr ⟨hIr, List.forall_mem_cons.mpr ⟨hIm, List.forall_mem_nil _⟩⟩⟩) (List.forall_mem_nil _) (fun z hz1 hz2 hc => ?_) ⟨rfl, hrv₂.append' (.cons _ _ .nil), hqv₂.append' (.cons _ _ .nil), ?_⟩
          · dsimp only
            lcg_sub
          · exact (by lcg_sub : ∀ p ∈ [(I, oI)], p ∈ _) _ (.head _)
          · simp only [kstB, if_neg hz1, List.contains_nil, Bool.false_eq_true, if_false]
          · rw [flood_take hone, ← hrq]
            unfold floodAdd
            rw [if_neg (by rw [hcon]; decide)]
      · clear F₇ N₇
        intros c
        obtain ⟨r₂, q₂, rv₂, qv₂, xu6, xu7, line₂, tl₂, np₂, tp₂, na₂, nn₂, xu8⟩ := c
        revert r₂ q₂ rv₂ qv₂ xu6 xu7 line₂ tl₂ np₂ tp₂ na₂ nn₂ xu8
        intro r₂ q₂ rv₂ qv₂ xu6 xu7 line₂ tl₂ np₂ tp₂ na₂ nn₂ xu8 u₂ h₈ tk₈ g₈ hP hg₈ F₈ N₈
        obtain ⟨el₂, hrv₂, hqv₂, hrq⟩ := hP
        revert el₂ hrv₂ hqv₂ hrq
        intro el₂ hrv₂ hqv₂ hrq
        dsimp only at el₂ hrv₂ hqv₂ hrq F₈ N₈
        subst el₂
        have hsz : mv.toArray.size = (mvs n tok).length := by rw [List.size_toArray]; exact hml2
        rw [hsz, List.take_length] at hrq
        have hlen := flood_len (ones := mvs n tok) (r, q)
        rw [← hrq] at hlen hfo'
        dsimp only at hlen hfo'
        have hff' : floodF n k r₂ q₂ = floodF n K [row] [row] := by
          rw [← hff]
          show _ = floodF n k _ _
          rw [← hrq]
        have hl2 := StrsAre.length hqv₂
        have hrest : ∀ p ∈ [(ra, W.listOf rv₂.toArray nn₂), (ma, W.listOf mv.toArray mn)], LAp l p.1 := List.forall_mem_cons.mpr ⟨hra, List.forall_mem_cons.mpr ⟨hpm, List.forall_mem_nil _⟩⟩
        k_steps
        (rename Fr _ _ _ _ => lF'); (rename News _ _ _ _ => lN')
        (try dsimp only)
        k_dflt (refine callWith_F0 ⟨_, _, _, _, lF'.keep _ _ (X₁ _ _ (by k_is))⟩ ?_)
        (try dsimp only [List.nil_append, List.cons_append])
        cases hqv₂ with
        | nil =>
          refine use_tokenG (rest := [(ra, W.listOf rv₂.toArray nn₂), (ma, W.listOf mv.toArray mn)]) hl lF' lN' hrest hfx hho X T rfl (Nat.le_of_ble_eq_true rfl) (Nat.le_of_ble_eq_true rfl) hx (Nat.le_refl _) hline ?_
          clear lF' lN'
          intro h₁₀ tk₁₀ tl₁₀ tp₁₀ na₁₀ pos' y ty F₁₀ N₁₀ hpos hgo
          rw [restAt_end rfl] at hgo
          injection (show (([] : List Nat), ([] : List Nat)) = (y, restAt x pos') from hgo) with hy1 hy2
          subst hy1
          have hpp := rest_nil hy2.symm hpos
          subst hpp
          rw [← hline] at N₁₀
          (try dsimp only)
          k_steps
          (rename Fr _ _ _ _ => lF'); (rename News _ _ _ _ => lN')
          refine w_end ⟨r₂, [], rv₂, [], Str.ofString "", ty, line₂, tl₁₀, np₂, tp₁₀, na₁₀, nn₂, 0⟩ lF' lN' (fun b => hg₈ (hg₇ (hg b))) (by dsimp only; lcg_sub) (List.forall_mem_cons.mpr ⟨rfl, List.forall_mem_nil _⟩) (fun z hz1 hc => ?_) ⟨rfl, hrv₂, .nil, ?_, ?_, .inr ⟨rfl, rfl, ?_, rfl⟩⟩ (Nat.succ_pos _)
          · have h1 : z ≠ Str.ofString "token" := hz1 _ (.head _)
            have h2 : z ≠ Str.ofString "one" := by intro e; subst e; revert hc; decide
            simp only [kstB, if_neg h1, if_neg h2, hc, List.contains_nil, Bool.false_eq_true, if_false]
          · dsimp only; omega
          · dsimp only [List.length_nil]; omega
          · rw [← hff']
            cases k <;> rfl
        | cons y t₂ hqv₃ =>
          refine use_pop (rest := [(ra, W.listOf rv₂.toArray nn₂), (ma, W.listOf mv.toArray mn)]) hl lF' lN' hrest hfx hho X T rfl (Nat.le_of_ble_eq_true rfl) (Nat.le_of_ble_eq_true rfl) (by rw [List.length_cons] at hl2; omega) ?_
          clear lF' lN'
          intro h₁₀ tk₁₀ np₁₀ F₁₀ N₁₀
          (try dsimp only)
          k_steps
          (rename Fr _ _ _ _ => lF'); (rename News _ _ _ _ => lN')
          refine w_end ⟨r₂, _, rv₂, _, y, t₂, line₂, tl₂, np₁₀, tp₂, na₂, nn₂, k⟩ lF' lN' (fun b => hg₈ (hg₇ (hg b))) (by dsimp only; lcg_sub) (List.forall_mem_cons.mpr ⟨rfl, List.forall_mem_nil _⟩) (fun z hz1 hc => ?_) ⟨rfl, hrv₂, hqv₃, ?_, ?_, .inl ⟨hfo', hff'⟩⟩ (Nat.lt_succ_self _)
          · have h1 : z ≠ Str.ofString "token" := hz1 _ (.head _)
            have h2 : z ≠ Str.ofString "one" := by intro e; subst e; revert hc; decide
            simp only [kstB, if_neg h1, if_neg h2, hc, List.contains_nil, Bool.false_eq_true, if_false]
          · dsimp only; omega
          · rw [List.length_cons] at hlen; dsimp only; omega
    all_goals (rename (tok != Str.ofString "") = false => hbad; rw [bne, htn] at hbad; cases hbad)
  · k_steps
    (rename Fr _ _ _ _ => lF'); (rename News _ _ _ _ => lN')
    have zr := lN' (ra, _) (List.mem_append_right _ (.head _))
    cases hqv
    refine ret h (tk + 1) g tl' np' tp' na' ra rv nn (fun b o e => lF'.keep b o (hho b o e).1) (lex_get (s := ⟨h, g, s.drawn, tk, s.os⟩) lF' lN' hfx) hg ?_ ⟨hra, fun p hp e => by have z := hfx p hp; rw [e, zr.2.2] at z; cases z⟩ zr.1 (hrR ▸ hrv)
    cases q : ho.get? ra with
    | none => rfl
    | some o => have := (hho _ _ q).1; rw [zr.2.2] at this; cases this
end Mine
end

section
theorem Mine.top_off_AE : True := by
  w_top off
  trivial
local macro_rules | `(tactic| omega) => `(tactic| first | lia | omega (config := {}))
open PySem PySem.W PyProof.Rows PySem.Spec PySem.Calls
namespace Mine
open PyProof.Rows.LCg (lst lst_snoc NsObj ns_obj fr_but news_but)
theorem k_filledA : (hd.heap_39 = hd.heap_39) ∧ (PySem.Challenge.rw_re0068_01 = PySem.Challenge.rw_re0068_01) := by
  k_fill
  exact ⟨rfl, rfl⟩

inductive RowsIn (objs : List (Addr × Obj)) : List Value → List (List Int) → Prop
  | nil : RowsIn objs [] []
  | cons {a : Addr} {us : List Value} {nn : Nat} {e : List Int} {vs : List Value} {es : List (List Int)} : (a, W.listOf us.toArray nn) ∈ objs → IntsAre us e → RowsIn objs vs es → RowsIn objs (.ref a :: vs) (e :: es)
theorem RowsIn.mono {objs objs' : List (Addr × Obj)} {vs : List Value} {es : List (List Int)} (h : RowsIn objs vs es) (hs : ∀ p ∈ objs, p ∈ objs') : RowsIn objs' vs es := by
  induction h with
  | nil => exact .nil
  | cons hm hi _ ih => exact .cons (hs _ hm) hi ih
theorem RowsIn.snoc {objs : List (Addr × Obj)} {vs : List Value} {es : List (List Int)} {a : Addr} {us : List Value} {nn : Nat} {e : List Int} (h : RowsIn objs vs es) (hm : (a, W.listOf us.toArray nn) ∈ objs) (hi : IntsAre us e) : RowsIn objs (vs ++ [.ref a]) (es ++ [e]) := by
  induction h with
  | nil => exact .cons hm hi .nil
  | cons hm' hi' _ ih => exact .cons hm' hi' ih
theorem RowsIn.length {objs : List (Addr × Obj)} {vs : List Value} {es : List (List Int)} (h : RowsIn objs vs es) : vs.length = es.length := by
  induction h with
  | nil => rfl
  | cons _ _ _ ih => simp [ih]
theorem RowsIn.get {objs : List (Addr × Obj)} {vs : List Value} {es : List (List Int)} (h : RowsIn objs vs es) : ∀ {i : Nat} {v : Value}, vs[i]? = some v → ∃ a us nn e, v = .ref a ∧ (a, W.listOf us.toArray nn) ∈ objs ∧ IntsAre us e ∧ es[i]? = some e := by
  induction h with
  | nil => intros i v h; simp at h
  | @cons a us nn e vs es hm hi _ ih =>
    intros i v h
    cases i with
    | zero => simp at h; exact ⟨a, us, nn, e, h.symm, hm, hi, rfl⟩
    | succ i => simp at h; obtain ⟨a', us', nn', e', h1, h2, h3, h4⟩ := ih h; exact ⟨a', us', nn', e', h1, h2, h3, by simpa using h4⟩

noncomputable def endOk (k : Int) (row : List Int) (e : Int) : Bool := decide ((row.take (e - k - 1).toNat).filter (fun l => decide (l > e)) = [])
noncomputable def endsIn (k : Int) (row : List Int) : Nat → List (List Int)
  | 0 => []
  | j + 1 => if endOk k row (k + 1 + (j : Int) * 1) then endsIn k row j ++ [(k + 1 + (j : Int) * 1) :: row] else endsIn k row j
noncomputable def endsTo (k : Int) (n : Nat) (rows : List (List Int)) : Nat → List (List Int)
  | 0 => []
  | i + 1 => endsTo k n rows i ++ endsIn k (rows.getD i []) n
noncomputable def endsStep (n : Nat) (k : Int) (rows : List (List Int)) : List (List Int) := endsTo k (n - k.toNat) rows rows.length
noncomputable def endsAll (n : Nat) : Nat → List (List Int)
  | 0 => [[]]
  | i + 1 => endsStep n ((n : Int) - 1 + (i : Int) * (-1)) (endsAll n i)

theorem endsIn_len {k : Int} {row e : List Int} : ∀ {j : Nat}, e ∈ endsIn k row j → e.length = row.length + 1 := by
  intros j
  induction j with
  | zero => intros h; cases h
  | succ j ih =>
    intros h
    unfold endsIn at h
    split at h
    · rcases List.mem_append.mp h with h | h
      · exact ih h
      · rw [List.mem_singleton.mp h]; rfl
    · exact ih h
theorem endsTo_len {k : Int} {n m : Nat} {rows : List (List Int)} (hr : ∀ r ∈ rows, r.length = m) {e : List Int} : ∀ {i : Nat}, i ≤ rows.length → e ∈ endsTo k n rows i → e.length = m + 1 := by
  intros i
  induction i with
  | zero => intros _ h; cases h
  | succ i ih =>
    intros hi h
    unfold endsTo at h
    rcases List.mem_append.mp h with h | h
    · exact ih (by omega) h
    · rw [endsIn_len h]
      have : rows.getD i [] ∈ rows := by
        have e : rows.getD i [] = rows[i] := by simp [List.getD, show i < rows.length by omega]
        rw [e]; exact List.getElem_mem _
      rw [hr _ this]
theorem endsAll_len {n : Nat} : ∀ {i : Nat} {e : List Int}, e ∈ endsAll n i → e.length = i := by
  intros i
  induction i with
  | zero => intros e h; rw [List.mem_singleton.mp h]; rfl
  | succ i ih => intros e h; exact endsTo_len (fun r hr => ih hr) (Nat.le_refl _) h

structure EndR where
  adr : Addr
  vs : List Value
  nn : Nat
  objs : List (Addr × Obj)

theorem lc2_assign {prog : Program} {w : World} {A : Around} {E : Value → Shared → Prop} {env : Env} {s : Shared} {elt i0 i1 t0 t1 : Expr} {y : Str} {py : Pos} {ifs : List Expr} {scope : Scope} {cl : List (Str × Addr)} {pos spos : Pos} {Q : Flow → Shared → Prop}
    (hsw : swapsWith (.ListComp elt [⟨t0, i0, [], 0⟩, ⟨t1, i1, ifs, 0⟩] scope pos) (some (.Name y py)) spos.line env = pure true)
    (hclos : closureFor scope env = pure cl) (hkind : scope.kind = .function) (hnames : ∀ y ∈ scope.names, y.2 = .local → scope.names.lookup y.1 = some .local)
    (h : wpAny (model prog w) A (eval i0 env) (fun xv s₁ => wpAny (model prog w) A (pyIter xv) (Blk2 prog w A E env elt t0 i0 t1 i1 ifs scope cl pos (some (assign (.Name y py) env)) (fun _ s' => Q .next s')) E s₁) E s)
    (hs : ∀ x, foldedSetIterable i0 env x = pure x := by intros _; rfl) :
    wpAny (model prog w) A (exec (.Assign [.Name y py] (.ListComp elt [⟨t0, i0, [], 0⟩, ⟨t1, i1, ifs, 0⟩] scope pos) spos) env) Q E s := by
  rw [exec_Assign_Name_used _ _ _ _ hsw]
  refine wpAny_bind (wpAny_standAt (wpAny_bind ?_))
  show wpAny _ A (do let _ ← comprehension (.ListComp elt [⟨t0, i0, [], 0⟩, ⟨t1, i1, ifs, 0⟩] scope pos) scope env _ (newList []) false (eval i0 env) (some (assign (.Name y py) env))) _ _ s
  refine wpAny_bind (wpAny_mono (wpAny_comprehension_free (use := some (assign (.Name y py) env)) (Q := fun _ s' => Q .next s') rfl hs hclos hkind hnames h)
    (fun _ s' hq => wpAny_pure (wpAny_pure hq)) fun _ _ e => e)

local macro_rules | `(tactic| walk_at $k:str) => if ["pyIter ref", "eval ListComp", "exec Assign cons ListComp"].contains k.getString then `(tactic| (refine hold_of ?_)) else Lean.Macro.throwUnsupported
local macro_rules | `(tactic| walk_at "exec For Name Call cons nil") => `(tactic| (k_dflt (refine wpAny_For ?_ (by intro _; rfl))))
local macro_rules | `(tactic| walk_at "eval Name") => `(tactic| (k_here; (with_reducible show wpAny _ _ (eval (Expr.Name _ _) (compEnvC _ _ _ _)) _ _ _); k_dflt (refine ldVarK (Fr.ns (by k_asm)) (by assumption) ?_)))

section
variable {prog : Program} {w : World} {A : Around} {E : Value → Shared → Prop} {s : Shared} {h₀ : Heap} {L l : Addr} {m : Str → Option Value} {news : List (Addr × Obj)} {value slice : PySem.Expr} {vs : List Value} {ns : List Int} {y : Int} {c : Nat} {ty : Tok} {Q : Value → Shared → Prop}
theorem ints_get {vs : List Value} {ns : List Int} (h : IntsAre vs ns) : ∀ {i : Nat} {v : Value}, vs[i]? = some v → ∃ n t, v = .int n t ∧ ns[i]? = some n := by
  induction h with
  | nil => intros i v h; simp at h
  | cons n t _ ih =>
    intros i v h
    cases i with
    | zero => simp at h; exact ⟨n, t, h.symm, rfl⟩
    | succ i => simp at h; obtain ⟨m, u, h1, h2⟩ := ih h; exact ⟨m, u, h1, by simpa using h2⟩
theorem slice_up (F : Fr h₀ L s.heap m) (N : News h₀ L s.heap news) (hm : (l, W.listOf vs.toArray c) ∈ news) (hi : IntsAre vs ns) (hy : 0 ≤ y) (hn : vs.length ≤ 1000)
    (h : ∀ D us h', Fr h₀ L h' m → News h₀ L h' ((D, W.listOf (List.toArray us) 0) :: news) → (∀ p ∈ news, p.1 < D) → IntsAre us (ns.take y.toNat) → us.length ≤ 1000 → Q (.ref D) { s with heap := h' })
    (hs : subscripted slice false (.ref l) (.ref s.heap.objs.size) = operate [.ref s.heap.objs.size, .ref l] (getItem (.ref l) (.ref s.heap.objs.size))) (ht : ∀ r, letTemporaryGo value (.ref l) r = pure ()) :
    wpAny (model prog w) A (subscriptTail value slice (.ref l) (.ref s.heap.objs.size)) Q E { s with heap := s.heap.push { cls := .type "slice", data := .fields #[.none, .int y ty, .none] } } := by
  have hl := hi.length
  refine kmk_slice F N ⟨_, (N _ hm).1, rfl, c, rfl⟩ .none (.int y ty) (fun D h' F' N' l1 => h D (slicePick vs.toArray none (some y) none).toList h' F' ?_ l1 (kmk_upto hi hy) ?_) hs ht (by rw [List.size_toArray, sizeLine_eq]; omega)
  · rw [Array.toArray_toList]; exact N'
  · have := slicePick_size_le vs.toArray none (some y) none
    simp only [List.size_toArray, Array.length_toList] at this ⊢
    omega
theorem add_row {b : Addr} {us : List Value} {d : Nat} (F : Fr h₀ L s.heap m) (N : News h₀ L s.heap news) (hm : (l, W.listOf vs.toArray c) ∈ news) (hb : (b, W.listOf us.toArray d) ∈ news) (h1 : vs.length ≤ 1000) (h2 : us.length ≤ 1000)
    (h : ∀ D h', Fr h₀ L h' m → News h₀ L h' ((D, W.listOf (vs ++ us).toArray 0) :: news) → (∀ p ∈ news, p.1 < D) → Q (.ref D) { s with heap := h' }) :
    wpAny (model prog w) A (binaryOp .Add (.ref l) (.ref b)) Q E s :=
  add_lists F N ⟨_, (N _ hm).1, rfl, c, rfl⟩ ⟨_, (N _ hb).1, rfl, d, rfl⟩ (fun h' F' N' => h _ h' F' N' (fun p hp => Heap.lt_size (N p hp).1)) (by rw [sizeLine_eq]; omega)
end
local macro_rules | `(tactic| walk_at "subscriptTail Name Slice ref ref") => `(tactic| (k_dflt (refine' slice_up ?F ?N ?l ?i ?y ?n ?_ ?s ?t; (case F => k_asm); (case N => k_asm); (case l => repeat (first | assumption | exact List.mem_cons_self | apply List.mem_cons_of_mem)); (case i => assumption); (case y => omega); (case n => omega); (case s => with_unfolding_all rfl); (case t => kmk_pure)); intro D' ws' h' F' N' l1 hI' hL'; (try k_lt l1)))
theorem ends_spec {prog : Program} {w : World} {s : Shared} {p : Program} {loose : List Str} {mean : ExcName → Option Value} {mg mb : Str → Option Value} {Q E : Value → Shared → Prop}
    {t : Tok} {n : Nat} (hn4 : n ≤ 4)
    (X : (hd.heap_39 w.params).In s.heap) (T : Top p loose mean mg mb s.heap)
    (ret : ∀ h' tk g r vs nn objs, Keeps s.heap h' → (AllBare s.gens → AllBare g) → s.heap.get? r = none → h'.get? r = some (W.listOf vs.toArray nn) → (∀ p ∈ objs, s.heap.get? p.1 = none ∧ h'.get? p.1 = some p.2) → RowsIn objs vs (endsAll n n) → Q (.ref r) { s with heap := h', toks := tk, gens := g }) :
    wpAny (model prog w) (AM 5) (call (.ref 101) [.int n t]) Q E s := by
  revert prog w s p loose mean mg mb Q E t n hn4 X T ret
  show ∀ prog w s p loose mean mg mb Q E t n hn4 X T ret, _
  intro prog w s p loose mean mg mb Q E t n
  intros hn4 X T ret
  k_dflt (refine' call_fnC X T ?ho ?hcd ?hr ?hb ?hk ?hn ?_ ?c1 ?c2 ?c3; (case ho => k_is); (case hcd => k_is); (case hr => decide); (case hb => exact BindsTo.of_eq rfl); (case hk => intro n x hx; rw [List.mem_singleton.mp hx]; exact .inr ⟨rfl, rfl⟩); (case hn => decide); (case c1 => exact rfl); (case c2 => exact rfl); (case c3 => exact rfl))
  intro L' h' tk' cells hL' F' N' Y'
  obtain ⟨ok, oc, hr1, hok, hoc⟩ := CellsAre.two Y'
  revert ok oc hr1 hok hoc
  intro ok oc hr1 hok hoc
  obtain rfl := hr1
  replace hok : ok.data = .cell none := hok
  replace hoc : oc.data = .cell (some (.int n t)) := hoc
  replace F' : Fr s.heap L' h' (fun _ => none) := F'
  clear Y'
  (try dsimp only)
  skip
  k_steps
  (rename Fr _ _ _ _ => lF'); (rename News _ _ _ _ => lN'); (rename IsRange _ _ _ _ _ _ _ _ => rgX)
  refine hold_in (forC_range (σ := EndR) (n := n) (fun c => (L' + 1, oc) :: (c.adr, W.listOf c.vs.toArray c.nn) :: c.objs) (fun c => [(Str.ofString "rows", .ref c.adr)]) []
    (fun i c => RowsIn c.objs c.vs (endsAll n i) ∧ c.vs.length ≤ 4 ^ i) ⟨_, [_], 0, [(_, W.listOf [].toArray 0)]⟩ rfl rgX (small_down (by omega) (by omega) (by omega) (by omega)) (by rw [rangeSize_downNat]; omega) rfl rfl rfl hok lF'
    (fun p hp => lN' p ((by lcg_sub : ∀ p ∈ _, p ∈ _) p hp)) ?_ (List.forall_mem_cons.mpr ⟨rfl, List.forall_mem_nil _⟩) ⟨.cons (.head _) .nil .nil, Nat.le_refl _⟩ ?_ ?_)
  · k_all
  · clear lF' lN'
    intros c
    obtain ⟨adr, vs, nn, objs⟩ := c
    revert adr vs nn objs
    intro adr vs nn objs i k tk₁ u h tk g I oI ok' hi hk hP hg hne hkI hokd F' N'
    obtain ⟨hrs, hvl⟩ := hP
    revert hrs hvl
    intro hrs hvl
    dsimp only at hrs hvl hne F' N'
    have hk0 : 0 ≤ k := by omega
    have hkn : k < n := by omega
    have hi4 : (4 : Nat) ^ i ≤ 4 ^ 3 := Nat.pow_le_pow_right (by decide) (by omega)
    have hmadr : (adr, W.listOf vs.toArray nn) ∈ (L' + 1 + 1, ok') :: (I, oI) :: (L' + 1, oc) :: (adr, W.listOf vs.toArray nn) :: objs := .tail _ (.tail _ (.tail _ (.head _)))
    k_steps
    refine hold_in ?_
    k_dflt (refine lc2_assign (by with_unfolding_all rfl) (by with_unfolding_all rfl) rfl (by decide) ?_)
    k_steps
    refine hold_in (block2 (σ := List (Addr × Obj)) (items := vs.toArray) (fun c2 => (L' + 1 + 1, ok') :: (I, oI) :: (L' + 1, oc) :: (adr, W.listOf vs.toArray nn) :: (objs ++ c2)) (fun i2 c2 ys => RowsIn c2 ys (endsTo k (n - k.toNat) (endsAll n i) i2) ∧ ys.length ≤ 4 * i2 ∧ ∀ p ∈ c2, p.1 ≠ I ∧ p.1 ≠ L' + 1 + 1) []
      rfl ⟨_, (N' _ hmadr).1, rfl, _, rfl⟩ (.inr ⟨_, fun c2 => .tail _ (.tail _ (.tail _ (.head _)))⟩) rfl rfl rfl rfl F' (by rw [List.append_nil]; exact N') ⟨.nil, Nat.le_refl _, List.forall_mem_nil _⟩ ?_ ?_ (fun _ _ => rfl))
    · clear F' N'
      intro c2 i2 v ys m₂ h tk g D C I2 oI2 oL ok2 vk2 hi2 hv
      intros hP2
      obtain ⟨hr2, hyl, hc2⟩ := hP2
      revert hr2 hyl hc2
      intro hr2 hyl hc2 hg2 hap hm hDC hfx hokd2 F' N'
      obtain ⟨a, us, na, row, hr2, hma, hus, hrow⟩ := hrs.get (by simpa using hv)
      revert a us na row hr2 hma hus hrow
      intro a us na row hr2 hma hus hrow
      obtain rfl := hr2
      simp only [List.cons_append, List.nil_append] at N'
      have hi2' : i2 < vs.length := by simpa using hi2
      have hul : us.length ≤ 4 := by rw [hus.length, endsAll_len (List.mem_of_getElem? hrow)]; omega
      have hmrow : (a, W.listOf us.toArray na) ∈ objs ++ c2 := List.mem_append_left _ hma
      k_steps
      (rename Fr _ _ _ _ => lF'); (rename News _ _ _ _ => lN'); (rename IsRange _ _ _ _ _ _ _ _ => rgX)
      refine hold_in (inner_range (σ := List (Addr × Obj)) (n := n - k.toNat) [(I2, oI2), (L', oL)] (fun c2 => (L' + 1 + 1, ok') :: (I, oI) :: (L' + 1, oc) :: (adr, W.listOf vs.toArray nn) :: (objs ++ c2))
        (fun j c2 ys => RowsIn c2 ys (endsTo k (n - k.toNat) (endsAll n i) i2 ++ endsIn k row j) ∧ ys.length ≤ 4 * i2 + j ∧ j ≤ 4 ∧ ∀ p ∈ c2, p.1 ≠ I ∧ p.1 ≠ L' + 1 + 1) c2
        rfl rgX (small_one (by omega) (by omega) (by omega) (by omega)) (by rw [rangeSize_one]; split <;> omega) (fun j c ys h => by have := h.2; omega) rfl rfl rfl hokd2 hDC hfx lF' lN' hap ⟨by simpa [endsIn] using hr2, by omega, by omega, hc2⟩ ?_ ?_)
      · clear lF' lN'
        intro c3 j k' t3 ys3 h tk g I3 oI3 ok3 hj hk'
        intros hP3
        obtain ⟨hr3, hyl3, hj4, hc3⟩ := hP3
        revert hr3 hyl3 hj4 hc3
        intro hr3 hyl3 hj4 hc3 hg3 hap3 hokd3 F' N'
        have N0 := N'
        have hmrow3 : (a, W.listOf us.toArray na) ∈ objs ++ c3 := List.mem_append_left _ hma
        simp only [List.cons_append, List.nil_append] at N'
        refine wpAny_tests_one ?_
        k_steps
        refine hold_in ?_
        k_dflt (refine lc_eval (by with_unfolding_all rfl) rfl (by decide) ?_)
        k_steps
        (rename Fr _ _ _ _ => lF'); (rename News _ _ _ _ => lN')
        rename IntsAre _ (List.take _ _) => hsl
        rename List Value => usl
        have hsll := hsl.length
        refine hold_in (comp_list (σ := Unit) (items := usl.toArray) (fun _ => _) (fun i _ ys => IntsAre ys (((row.take (k' - k - 1).toNat).take i).filter (fun l => decide (l > k')))) () rfl ⟨_, (lN' _ (.head _)).1, rfl, _, rfl⟩ (.inr ⟨_, fun _ => .head _⟩) (by rw [List.size_toArray, sizeLine_eq]; omega) (by decide) rfl rfl lF' lN' .nil ?_)
        intro g
        refine CompOf.none ?_ ?_
        · clear lF' lN'
          intro c i v ys m₃ h tk g D4 C4 oI4 oL4 hi4 hv4 hP4 hg4 hap4 hm4 F' N'
          obtain ⟨l, tl, hr3, hl4⟩ := ints_get hsl (by simpa using hv4)
          revert l tl hr3 hl4
          intro l tl hr3 hl4
          obtain rfl := hr3
          have N0 := N'
          simp only [List.cons_append] at N'
          refine wpAny_tests_one ?_
          k_steps
          · refine q_end () F' N0 hg4 (fun p hp => List.mem_append_right _ hp) (fun p hp => List.mem_append_left _ hp) hap4 ?_
            show IntsAre _ (List.filter _ _)
            rw [take_succ_filter _ _ _ l hl4, if_pos (decide_eq_true (by assumption))]
            exact ints_snoc hP4 l tl
          · refine q_end () F' N0 hg4 (fun p hp => List.mem_append_right _ hp) (fun p hp => List.mem_append_left _ hp) hap4 ?_
            show IntsAre _ (List.filter _ _)
            rw [take_succ_filter _ _ _ l hl4, if_neg (by rw [decide_eq_false (by assumption)]; exact Bool.false_ne_true), List.append_nil]
            exact hP4
        · clear lF' lN'
          intro c ys D4 h tk g hys hyl hg4 hap4 F' N'
          replace N' := (show News _ _ _ ((D4, W.listOf ys.toArray ys.length) :: _) from N')
          rw [List.take_of_length_le (by rw [List.size_toArray]; omega)] at hys
          k_steps
          · (rename Fr _ _ _ _ => lF'); (rename News _ _ _ _ => lN')
            have hok : endOk k row k' = true := by assumption
            refine add_row (vs := [.int k' t3]) (us := us) lF' lN' (.head _) (by repeat (first | assumption | apply List.mem_cons_of_mem)) (Nat.le_of_ble_eq_true rfl) (by omega) ?_
            intro D5 h5 F5 N5 l5
            have up4 := fun p (hp : p ∈ (D, lst ys3) :: (C + 1, ok3) :: (I3, oI3) :: [(I2, oI2), (L', oL)] ++ ((L' + 1 + 1, ok') :: (I, oI) :: (L' + 1, oc) :: (adr, W.listOf vs.toArray nn) :: (objs ++ c3))) => l5 p (.tail _ (.tail _ (.tail _ (.tail _ hp))))
            have sp : ∀ p, p ∈ (L' + 1 + 1, ok') :: (I, oI) :: (L' + 1, oc) :: (adr, W.listOf vs.toArray nn) :: (objs ++ (c3 ++ [(D5, W.listOf ([Value.int k' t3] ++ us).toArray 0)])) → p ∈ (L' + 1 + 1, ok') :: (I, oI) :: (L' + 1, oc) :: (adr, W.listOf vs.toArray nn) :: (objs ++ c3) ∨ p = (D5, W.listOf ([Value.int k' t3] ++ us).toArray 0) := fun p hp => by
              rw [← List.append_assoc] at hp
              exact (List.mem_append.mp (show p ∈ ((L' + 1 + 1, ok') :: (I, oI) :: (L' + 1, oc) :: (adr, W.listOf vs.toArray nn) :: (objs ++ c3)) ++ [(D5, W.listOf ([Value.int k' t3] ++ us).toArray 0)] from hp)).imp id List.mem_singleton.mp
            refine r_end (c3 ++ [(D5, W.listOf ([Value.int k' t3] ++ us).toArray 0)]) F5 N5 (fun b => hg4 (hg3 b)) (fun p hp => .tail _ (.tail _ (.tail _ (.tail _ (.tail _ (List.mem_append_left _ hp)))))) (fun p hp => ?_) (fun p hp q hq => ?_) ⟨?_, ?_, ?_, fun p hp => ?_⟩
            · rcases sp p hp with hp | rfl
              · exact .tail _ (.tail _ (.tail _ (.tail _ (.tail _ (List.mem_append_right ((D, lst ys3) :: (C + 1, ok3) :: (I3, oI3) :: [(I2, oI2), (L', oL)]) hp)))))
              · exact .head _
            · rcases sp p hp with hp | rfl
              · exact hap3 p hp q hq
              · exact Nat.ne_of_gt (up4 q (List.mem_append_left _ hq))
            · have e1 : endsIn k row (j + 1) = endsIn k row j ++ [k' :: row] := by
                subst hk'
                show (if endOk k row (k + 1 + (j : Int) * 1) = true then _ else _) = _
                rw [if_pos hok]
              rw [e1, ← List.append_assoc]
              exact (hr3.mono fun p hp => List.mem_append_left _ hp).snoc (List.mem_append_right _ (.head _)) (.cons _ _ hus)
            · rw [List.length_append, List.length_singleton]; omega
            · omega
            · rcases List.mem_append.mp hp with hp | hp
              · exact hc3 p hp
              · rw [List.mem_singleton.mp hp]
                exact ⟨Nat.ne_of_gt (up4 _ (List.mem_append_right _ (.tail _ (.head _)))), Nat.ne_of_gt (up4 _ (List.mem_append_right _ (.head _)))⟩
          · (rename Fr _ _ _ _ => lF'); (rename News _ _ _ _ => lN')
            have hok : endOk k row k' = false := by assumption
            refine r_end c3 lF' lN' (fun b => hg4 (hg3 b)) (fun p hp => .tail _ (.tail _ (.tail _ (List.mem_append_left _ hp)))) (fun p hp => .tail _ (.tail _ (.tail _ (List.mem_append_right ((D, lst ys3) :: (C + 1, ok3) :: (I3, oI3) :: [(I2, oI2), (L', oL)]) hp)))) hap3 ⟨?_, ?_, ?_, hc3⟩
            · have e1 : endsIn k row (j + 1) = endsIn k row j := by
                subst hk'
                show (if endOk k row (k + 1 + (j : Int) * 1) = true then _ else _) = _
                rw [hok]; rfl
              rw [e1]; exact hr3
            · omega
            · omega
      · clear lF' lN'
        intro c3 ys3 h tk g ok3 vk3
        intros hP3
        obtain ⟨hr3, hyl3, hj4, hc3⟩ := hP3
        revert hr3 hyl3 hj4 hc3
        intro hr3 hyl3 hj4 hc3 hg3 F' N' hap3 hokd3
        refine ⟨rfl, c3, ys3, h, tk, g, ok3, vk3, m₂, rfl, (fun b => hg3 (hg2 b)), F', N', hap3, hokd3, ?_, by omega, hc3⟩
        have e1 : (endsAll n i).getD i2 [] = row := by rw [List.getD, hrow]; rfl
        show RowsIn c3 ys3 (endsTo k (n - k.toNat) (endsAll n i) i2 ++ endsIn k ((endsAll n i).getD i2 []) (n - k.toNat))
        rw [e1]; exact hr3
    · clear F' N'
      intro c2 ys D C m' h tk g
      intros hP2
      obtain ⟨hr2, hyl, hc2⟩ := hP2
      revert hr2 hyl hc2
      intro hr2 hyl hc2 hg2 F' N' off hn hCL hC₀ offC
      refine fin_some rfl rfl rfl F' N' hn hCL hC₀ offC ?_
      clear F' N'
      intro h₃ tk₃ F' N'
      k_steps
      (rename Fr _ _ _ _ => lF'); (rename News _ _ _ _ => lN')
      refine k_end ⟨D, ys, ys.length, c2⟩ lF' lN' (fun b => hg2 (hg b)) (.tail _ (.head _)) (fun p hp => ?_) (.tail _ (.tail _ (.head _))) (fun p hp => ?_) (List.forall_mem_cons.mpr ⟨rfl, List.forall_mem_nil _⟩) (fun z hz _ => ?_) ⟨?_, ?_⟩
      · rcases List.mem_cons.mp hp with rfl | hp
        · exact .tail _ (.tail _ (.tail _ (.head _)))
        · rcases List.mem_cons.mp hp with rfl | hp
          · exact .head _
          · exact .tail _ (.tail _ (.tail _ (.tail _ (.tail _ (List.mem_append_right _ hp)))))
      · rcases List.mem_cons.mp hp with rfl | hp
        · exact hne _ (.head _)
        · rcases List.mem_cons.mp hp with rfl | hp
          · exact ⟨Ne.symm (off _ (.tail _ (.head _))), Ne.symm (off _ (.head _))⟩
          · exact hc2 p hp
      · have h1 := hz _ (.head _)
        simp only [kstB, if_neg h1, List.contains_nil, Bool.false_eq_true, if_false]
      · subst hk
        have := hrs.length
        show RowsIn c2 ys (endsTo _ _ (endsAll n i) (endsAll n i).length)
        rw [← this]
        simpa using hr2
      · show ys.length ≤ 4 ^ (i + 1)
        rw [List.size_toArray] at hyl
        rw [Nat.pow_succ]; omega
  · clear lF' lN'
    intros c
    obtain ⟨adr, vs, nn, objs⟩ := c
    revert adr vs nn objs
    intro adr vs nn objs u h tk g hP hg F' N'
    obtain ⟨hrs, hvl⟩ := hP
    revert hrs hvl
    intro hrs hvl
    dsimp only at hrs hvl F' N'
    k_steps
    exact ret h _ g adr vs nn objs F'.keep hg (N' _ (.tail _ (.head _))).2.2 (N' _ (.tail _ (.head _))).1 (fun p hp => have z := N' p (.tail _ (.tail _ hp)); ⟨z.2.2, z.1⟩) hrs
end Mine
end

section
theorem Mine.top_off_PF : True := by
  w_top off
  trivial
local macro_rules | `(tactic| omega) => `(tactic| first | lia | omega (config := {}))
open PySem PySem.W PyProof.Rows
namespace Mine
noncomputable def namesO (o n : Nat) : List Str := (List.range n).map fun k => letters.getD ((o + k) % 8) Str.empty
noncomputable def allRows (n : Nat) : List (List Int) := endsAll n n
noncomputable def texts (n o : Nat) : List Str := (allRows n).map fun es => rowF es (namesO o n)
noncomputable def toldF (n o : Nat) (es : List Int) : List Str := (texts n o).filter fun r => fitsF r es (namesO o n)
noncomputable def floodE (n o : Nat) (es : List Int) : List Str := floodF (2 * n) 20 [rowF es (namesO o n)] [rowF es (namesO o n)]
noncomputable def leastF (a b : List Int) : List Int := grownF (List.zipWith max a b)
noncomputable def rowFact (n o : Nat) (es : List Int) : Bool := floodOk (2 * n) 20 [rowF es (namesO o n)] [rowF es (namesO o n)] && (floodE n o es).isPerm (toldF n o es)
noncomputable def pairFact (n o : Nat) (a b : List Int) : Bool := (toldF n o a).filter (fun r => (floodE n o b).contains r) == toldF n o (leastF a b)
end Mine
end

section
theorem Mine.top_off_PL : True := by
  w_top off
  trivial
local macro_rules | `(tactic| omega) => `(tactic| first | lia | omega (config := {}))
open PySem PySem.W PyProof.Rows
namespace Mine
/-- what is asked of a row's text -/
noncomputable def txOk (t : Str) : Bool := t.cps.toList.all (fun c => c != 34 && c != 92 && c != 10 && decide (c < 128)) && decide (t.length ≤ 16) && decide (0 < t.length)

theorem gs_quot {l r : List Nat} : ∀ {tk : List Nat}, l.all (fun c => c != 34 && c != 92) = true → gs isQ (l ++ 34 :: r) tk = (tk ++ l, r) := by
  induction l with
  | nil => intros tk _; rw [List.nil_append, gs_stop (by decide), List.append_nil]
  | cons c l ih =>
    intros tk h
    rw [List.all_cons, Bool.and_eq_true] at h
    have h1 := h.1
    simp only [Bool.and_eq_true, bne_iff_ne] at h1
    rw [List.cons_append, gs_add (by simp [isQ, h1.1]) h1.2, ih h.2, List.append_assoc]; rfl
noncomputable def esc (l : List Nat) : List Nat := l.flatMap fun c => [92, c]
theorem gs_esc_stop {l r : List Nat} {c : Nat} (hc : isWs c = true) : ∀ {tk : List Nat}, gs isWs (esc l ++ c :: r) tk = (tk ++ l, r) := by
  induction l with
  | nil => intros tk; show gs isWs (c :: r) tk = _; rw [gs_stop hc, List.append_nil]
  | cons d l ih =>
    intros tk
    show gs isWs (92 :: d :: (esc l ++ c :: r)) tk = _
    rw [gs_esc (by decide), ih, List.append_assoc]; rfl
theorem gs_esc_end {l : List Nat} : ∀ {tk : List Nat}, gs isWs (esc l) tk = (tk ++ l, []) := by
  induction l with
  | nil => intros tk; show gs isWs [] tk = _; rw [gs, List.append_nil]
  | cons d l ih =>
    intros tk
    show gs isWs (92 :: d :: esc l) tk = _
    rw [gs_esc (by decide), ih, List.append_assoc]; rfl
theorem join_nil_list (l : List Str) : (Txt.join (Str.ofString "") l).cps.toList = l.flatMap fun x => x.cps.toList := by
  show (Builtin.Str.glued (Str.ofString "") l).cps.toList = _
  rw [StrLaws.glued_eq_join]
  induction l with
  | nil => rfl
  | cons a r ih =>
    cases r with
    | nil => simp [Str.join]
    | cons b r =>
      show (a ++ Str.ofString "" ++ Str.join (Str.ofString "") (b :: r)).cps.toList = _
      rw [Str.cps_append, Str.cps_append, Array.toList_append, Array.toList_append, ih]
      rw [show (Str.ofString "").cps.toList = [] by decide, List.append_nil]
      rfl
theorem flat_one (l : List Nat) : l.flatMap (fun c => [c]) = l := by
  induction l with
  | nil => rfl
  | cons a r ih => rw [List.flatMap_cons, ih]; rfl
theorem wordF_quot (x : Str) : (wordF x 0).cps.toList = 34 :: x.cps.toList ++ [34] := by
  show (Str.ofString "\"" ++ Txt.join (Str.ofString "") (quotF x) ++ Str.ofString "\"").cps.toList = _
  rw [Str.cps_append, Str.cps_append, Array.toList_append, Array.toList_append, join_nil_list, show (Str.ofString "\"").cps.toList = [34] by decide]
  unfold quotF
  rw [List.flatMap_map]
  have : (fun a => (sgn a).cps.toList) = fun c => [c] := rfl
  rw [this, flat_one]; rfl
theorem wordF_bare (x : Str) {b : Int} (hb : b ≠ 0) : (wordF x b).cps.toList = esc x.cps.toList := by
  unfold wordF
  rw [if_neg hb, join_nil_list]
  unfold bareF esc
  rw [List.flatMap_map]
  congr 1
theorem esc_length (l : List Nat) : (esc l).length = 2 * l.length := by
  induction l with
  | nil => rfl
  | cons a r ih => show (92 :: a :: esc r).length = _; simp only [List.length_cons, ih]; omega
theorem len_list (x : Str) : x.length = x.cps.toList.length := by simp [Str.length]
theorem wordF_len {x : Str} {b : Int} (h : x.length ≤ 16) : (wordF x b).length ≤ 32 := by
  rw [len_list] at h
  rw [len_list]
  by_cases hb : b = 0
  · subst hb; rw [wordF_quot]; simp; simp at h; omega
  · rw [wordF_bare x hb, esc_length]; omega
/-- the two words in one text -/
noncomputable def wordsF (a c : Str) (b : Int) : Str := Txt.join (Str.ofString "\n") [wordF a b, wordF c b]
theorem wordsF_list (a c : Str) (b : Int) : (wordsF a c b).cps.toList = (wordF a b).cps.toList ++ 10 :: (wordF c b).cps.toList := by
  show (Builtin.Str.glued (Str.ofString "\n") _).cps.toList = _
  rw [StrLaws.glued_eq_join]
  show (wordF a b ++ Str.ofString "\n" ++ wordF c b).cps.toList = _
  rw [Str.cps_append, Str.cps_append, Array.toList_append, Array.toList_append, show (Str.ofString "\n").cps.toList = [10] by decide, List.append_assoc]; rfl
theorem wordsF_len {a c : Str} {b : Int} (ha : a.length ≤ 16) (hc : c.length ≤ 16) : (wordsF a c b).length ≤ 65 := by
  have h1 := wordF_len (b := b) ha
  have h2 := wordF_len (b := b) hc
  rw [len_list] at h1 h2
  rw [len_list, wordsF_list, List.length_append, List.length_cons]
  omega
theorem txOk_list {t : Str} (h : txOk t = true) : (∀ c ∈ t.cps.toList, c ≠ 34 ∧ c ≠ 92 ∧ c ≠ 10 ∧ c < 128) ∧ t.length ≤ 16 ∧ 0 < t.length := by
  unfold txOk at h
  simp only [Bool.and_eq_true, decide_eq_true_eq, List.all_eq_true, bne_iff_ne] at h
  exact ⟨fun c hc => have z := h.1.1 c hc; ⟨z.1.1.1, z.1.1.2, z.1.2, z.2⟩, h.1.2, h.2⟩
/-- the first word and the second, read back -/
theorem words_read {a c : Str} {b : Int} (ha : txOk a = true) (hc : txOk c = true) :
    ∃ r, go (wordsF a c b).cps.toList = (a.cps.toList, r) ∧ go r = (c.cps.toList, []) := by
  obtain ⟨a1, a2, a3⟩ := txOk_list ha
  obtain ⟨c1, c2, c3⟩ := txOk_list hc
  rw [wordsF_list]
  by_cases hb : b = 0
  · subst hb
    rw [wordF_quot, wordF_quot]
    refine ⟨10 :: 34 :: (c.cps.toList ++ [34]), ?_, ?_⟩
    · show go (34 :: (a.cps.toList ++ [34] ++ 10 :: 34 :: (c.cps.toList ++ [34]))) = _
      rw [go_q, List.append_assoc]
      refine (gs_quot ?_).trans rfl
      rw [List.all_eq_true]; intros x hx
      simp [(a1 x hx).1, (a1 x hx).2.1]
    · rw [go_ws (by decide), go_q]
      refine (gs_quot ?_).trans rfl
      rw [List.all_eq_true]; intros x hx
      simp [(c1 x hx).1, (c1 x hx).2.1]
  · rw [wordF_bare a hb, wordF_bare c hb]
    refine ⟨esc c.cps.toList, ?_, ?_⟩
    · rw [len_list] at a3
      revert a3
      cases a.cps.toList with
      | nil => intros h; cases h
      | cons d r =>
        intros _
        show go (92 :: d :: (esc r ++ 10 :: esc c.cps.toList)) = _
        rw [go_esc, gs_esc_stop (by decide)]; rfl
    · rw [len_list] at c3
      revert c3
      cases c.cps.toList with
      | nil => intros h; cases h
      | cons d r =>
        intros _
        show go (92 :: d :: esc r) = _
        rw [go_esc, gs_esc_end]; rfl
theorem esc_count (l : List Nat) (h : ∀ c ∈ l, c ≠ 10) : (esc l).countP (fun c => c == 10) = 0 := by
  rw [List.countP_eq_zero]
  intros c hc
  unfold esc at hc
  obtain ⟨d, hd, hcd⟩ := List.mem_flatMap.mp hc
  have := h d hd
  simp at hcd
  rcases hcd with rfl | rfl
  · decide
  · simpa using this
theorem words_line {a c : Str} {b : Int} (ha : txOk a = true) (hc : txOk c = true) : lineAt (wordsF a c b) (wordsF a c b).length = 2 := by
  obtain ⟨a1, a2, a3⟩ := txOk_list ha
  obtain ⟨c1, c2, c3⟩ := txOk_list hc
  unfold lineAt
  rw [len_list, List.take_length, wordsF_list, List.countP_append, List.countP_cons]
  have z : ∀ t : Str, txOk t = true → (wordF t b).cps.toList.countP (fun c => c == 10) = 0 := by
    intros t ht
    obtain ⟨t1, _, _⟩ := txOk_list ht
    by_cases hb : b = 0
    · subst hb
      rw [wordF_quot, List.countP_eq_zero]
      intros d hd
      rcases List.mem_append.mp hd with hd | hd
      · rcases List.mem_cons.mp hd with rfl | hd
        · decide
        · simpa using (t1 d hd).2.2.1
      · rw [List.mem_singleton.mp hd]; decide
    · rw [wordF_bare t hb]
      exact esc_count _ fun d hd => (t1 d hd).2.2.1
  rw [z a ha, z c hc]
  rfl
end Mine
end

section
theorem Mine.top_off_LA : True := by
  w_top off
  trivial
local macro_rules | `(tactic| omega) => `(tactic| first | lia | omega (config := {}))
open PySem PySem.W PyProof.Rows PySem.Spec PySem.Calls
namespace Mine
noncomputable def lawStmt : Stmt := PySem.Challenge.pw_re0068_01.main.body.getLastD (.Pass ⟨0, 0, 0, 0⟩)
noncomputable abbrev the {α : Type} {y : α} (x : α) (_ : x = y) : α := x
noncomputable abbrev lawBody : List Stmt := by
  refine the (y := match lawStmt with | .FunctionDef _ _ b _ _ _ _ _ _ _ => b | _ => []) ?x ?h
  case h =>
    conv => rhs; whnf

noncomputable abbrev lawScope : Scope := by
  refine the (y := match lawStmt with | .FunctionDef _ _ _ _ _ _ sc _ _ _ => sc | _ => ⟨.function, [], false, false, []⟩) ?x ?h
  case h =>
    conv => rhs; whnf

noncomputable abbrev lawEnv (L fa : Addr) (cd : Value) : Env := envOfC (Str.ofString "law") lawScope L fa cd
end Mine
end

section
theorem Mine.top_off_LB : True := by
  w_top off
  trivial
local macro_rules | `(tactic| omega) => `(tactic| first | lia | omega (config := {}))
open PySem PySem.W PyProof.Rows PySem.Spec PySem.Calls
namespace Mine
open PyProof.Rows.LCg (lst lst_snoc NsObj ns_obj fr_but news_but)
theorem k_filledLB : (hd.heap_39 = hd.heap_39) ∧ (PySem.Challenge.rw_re0068_01 = PySem.Challenge.rw_re0068_01) := by
  k_fill
  exact ⟨rfl, rfl⟩
theorem imap_step {l : List Int} {i : Nat} {c : Int} {ys : List Value} {t : Tok} {f : Int → Int} (hc : l[i]? = some c) (h : IntsAre ys ((l.map f).take i)) : IntsAre (ys ++ [.int (f c) t]) ((l.map f).take (i + 1)) := by
  have : (l.map f).take (i + 1) = (l.map f).take i ++ [f c] := by
    rw [List.take_add_one]
    simp [hc]
  rw [this]
  exact h.append (.cons _ _ .nil)
/-- the first cells -/
noncomputable def cellsF (ns : List Int) : List Int := (ns.take 3).map (fun k => Int.fmod k 840) ++ [1, 3, 0].drop ns.length
noncomputable abbrev lawLed (L : Addr) (o1 o2 o3 o4 o5 o6 : Obj) (ps : Array Value) : List (Addr × Obj) := [(L + 1 + 1 + 1 + 1 + 1 + 1, o1), (L + 1 + 1 + 1 + 1 + 1, o2), (L + 1 + 1 + 1 + 1, o3), (L + 1 + 1 + 1, o4), (L + 1 + 1, o5), (L + 1, o6), (86, tabObj ps)]
local macro_rules | `(tactic| walk_at $k:str) => if ["And", "call ref", "eval ListComp", "exec Assign cons ListComp", "call builtin:len", "pyIter ref", "last subscriptTail", "execs cons"].contains k.getString then `(tactic| (refine hold_of ?_)) else Lean.Macro.throwUnsupported
local macro_rules | `(tactic| walk_at "eval Name") => `(tactic| (k_here; (with_reducible show wpAny _ _ (eval (Expr.Name _ _) (compEnvC _ _ _ _)) _ _ _); k_dflt (refine ldVarK (Fr.ns (by k_asm)) (by assumption) ?_)))
theorem st1 {prog : Program} {w : World} {s : Shared} {p : Program} {loose : List Str} {mean : ExcName → Option Value} {mg mb : Str → Option Value} {Q : Flow → Shared → Prop} {E : Value → Shared → Prop}
    {h₀ : Heap} {L fa sa : Addr} {cd : Value} {svs : List Value} {ns : List Int} {o1 o2 o3 o4 o5 o6 : Obj}
    (X : (hd.heap_39 w.params).In h₀) (T : Top p loose mean mg mb h₀) (hI : IntsAre svs ns) (hn : ns.length ≤ 63) (hl : h₀.IsList sa svs.toArray)
    (l0 : @LT.lt Nat _ 86 L) (d6 : o6.data = .cell none)
    (F : Fr h₀ L s.heap (fun y => if y = Str.ofString "script" then some (.ref sa) else none)) (N : News h₀ L s.heap (lawLed L o1 o2 o3 o4 o5 o6 #[]))
    (ret : ∀ h' tk g ca cv cn o6', Fr h₀ L h' (fun y => if y = Str.ofString "script" then some (.ref sa) else none) → News h₀ L h' ((ca, W.listOf cv.toArray cn) :: lawLed L o1 o2 o3 o4 o5 o6' #[]) → o6'.data = .cell (some (.ref ca)) → IntsAre cv (cellsF ns) →
      @LT.lt Nat _ (L + 1 + 1 + 1 + 1 + 1 + 1) ca → (AllBare s.gens → AllBare g) → wpAny (model prog w) (AM 1) (execs (lawBody.drop 1) (lawEnv L fa cd)) Q E { s with heap := h', toks := tk, gens := g }) :
    wpAny (model prog w) (AM 1) (execs lawBody (lawEnv L fa cd)) Q E s := by
  revert prog w s p loose mean mg mb Q E h₀ L fa sa cd svs ns o1 o2 o3 o4 o5 o6 X T hI hn hl l0 d6 F N ret
  show ∀ prog w s p loose mean mg mb Q E h₀ L fa sa cd svs ns o1 o2 o3 o4 o5 o6 X T hI hn hl l0 d6 F N ret, _
  intro prog w s p loose mean mg mb Q E h₀ L fa sa cd svs ns o1 o2 o3 o4 o5 o6
  intros X T hI hn hl l0 d6 F N ret
  have hsv := IntsAre.length hI
  dsimp only [lawBody, the]
  dsimp only [lawLed] at N
  refine wpAny_execs_cons ?_
  try dsimp only
  k_steps
  refine hold_in ?_
  k_dflt (refine lc_eval (by with_unfolding_all rfl) rfl (by decide) ?_)
  k_steps
  (rename Fr _ _ _ _ => lF'); (rename News _ _ _ _ => lN')
  rename_i D1 ws1 h1 i1 i2 i3 l1
  have hw1 := IntsAre.length i1
  have zD1 := lN' (D1, _) (.head _)
  refine hold_in (comp_list (σ := Unit) (fun _ => (D1, W.listOf ws1.toArray 0) :: lawLed L o1 o2 o3 o4 o5 o6 #[]) (fun i _ ys => IntsAre ys (((ns.take 3).map (fun k => Int.fmod k 840)).take i)) () rfl ⟨_, zD1.1, rfl, 0, rfl⟩ (.inr ⟨_, fun _ => .head _⟩) (by rw [sizeLine_eq, List.size_toArray]; omega) (by decide) rfl rfl lF' lN' .nil ?_)
  intro g
  refine CompOf.none ?_ ?_
  · clear lF' lN'
    intro c i v ys m₂ h tk g D C oI oL hi hv hP hg off hm F' N'
    obtain ⟨k, t, hr1, hk⟩ := ints_get i1 (by simpa using hv)
    revert k t hr1 hk
    intro k t hr1 hk
    obtain rfl := hr1
    refine wpAny_tests_nil ?_
    rw [if_pos rfl]
    k_steps
    refine q_end () (by assumption) (by assumption) hg (fun p hp => List.mem_append_right _ hp) (fun p hp => List.mem_append_left _ hp) off ?_
    exact imap_step hk hP
  · clear lF' lN'
    intro c ys D h tk g hys hyl hg off F' N'
    dsimp only [lawLed] at N'
    (try dsimp only)
    have hwt : ws1.toArray.size = ((ns.take 3).map (fun k => Int.fmod k 840)).length := by rw [List.size_toArray, List.length_map]; exact hw1
    rw [hwt, List.take_length] at hys
    clear hwt hyl zD1 off
    k_steps
    (rename Fr _ _ _ _ => lF'); (rename News _ _ _ _ => lN')
    refine hold_in ?_
    k_dflt (refine' Calls.call_len_list (items := svs.toArray) ?a ?b ?_; (case a => exact hl.at fun o e => lF'.keep _ o e); (case b => rw [List.size_toArray]; omega))
    rw [List.size_toArray, hsv]
    k_steps
    (rename Fr _ _ _ _ => lF'); (rename News _ _ _ _ => lN')
    refine hold_in ?_
    k_dflt (refine kba_turn (value' := PySem.Expr.Name (PySem.Str.ofString "_") ⟨0, 0, 0, 0⟩) (fun _ => rfl) ?_)
    k_dflt (refine' kmk_slice_ints lF' lN' ?l (.int _ _) .none ?i (kmk_from ?i2 ?z) rfl ?_ ?s ?t ?n; (case l => exact ⟨_, (lN' _ (.head _)).1, rfl, _, rfl⟩); (case i => exact .cons _ _ (.cons _ _ (.cons _ _ .nil))); (case i2 => exact .cons _ _ (.cons _ _ (.cons _ _ .nil))); (case z => omega); (case s => with_unfolding_all rfl); (case t => kmk_pure); (case n => exact Nat.le_of_ble_eq_true rfl))
    clear lF' lN'
    intro D3 w3 h3 F3 N3 l3 i3 j1 j2
    (try k_lt l3)
    k_steps
    (rename Fr _ _ _ _ => lF'); (rename News _ _ _ _ => lN')
    rename_i D4 w4 h4 i4 l4
    have n4 := news_sub lN' (b := (D4, W.listOf w4.toArray 0) :: lawLed L o1 o2 o3 o4 o5 o6 #[]) (by dsimp only [lawLed]; lcg_sub)
    clear lN' l3 i3 j1 j2
    dsimp only [lawLed] at n4
    k_steps
    (rename Fr _ _ _ _ => lF'); (rename News _ _ _ _ => lN')
    rename_i d9
    refine hold_in ?_
    exact ret _ _ _ _ _ _ _ lF' lN' d9 i4 (by omega) hg
end Mine
end

section
theorem Mine.top_off_LC : True := by
  w_top off
  trivial
local macro_rules | `(tactic| omega) => `(tactic| first | lia | omega (config := {}))
open PySem PySem.W PyProof.Rows PySem.Spec PySem.Calls
namespace Mine
open PyProof.Rows.LCg (lst lst_snoc NsObj ns_obj fr_but news_but)
theorem k_filledLC : (hd.heap_39 = hd.heap_39) ∧ (PySem.Challenge.rw_re0068_01 = PySem.Challenge.rw_re0068_01) := by
  k_fill
  exact ⟨rfl, rfl⟩
theorem cells_three (ns : List Int) : ∃ c0 c1 c2 : Int, cellsF ns = [c0, c1, c2] ∧ (0 ≤ c0 ∧ c0 < 840) ∧ (0 ≤ c1 ∧ c1 < 840) ∧ (0 ≤ c2 ∧ c2 < 840) ∧ (ns.length ≤ 1 → c2 = 0) := by
  have b : ∀ k : Int, 0 ≤ Int.fmod k 840 ∧ Int.fmod k 840 < 840 := fun k => ⟨Int.fmod_nonneg_of_pos _ (by decide), Int.fmod_lt_of_pos _ (by decide)⟩
  unfold cellsF
  match ns with
  | [] => exact ⟨1, 3, 0, rfl, by decide, by decide, by decide, fun _ => rfl⟩
  | [a] => exact ⟨_, 3, 0, rfl, b a, by decide, by decide, fun _ => rfl⟩
  | [a, c] => exact ⟨_, _, 0, rfl, b a, b c, by decide, fun h => rfl⟩
  | a :: c :: d :: r => exact ⟨_, _, _, by simp, b a, b c, b d, fun h => by simp at h⟩
local macro_rules | `(tactic| walk_at $k:str) => if ["call builtin:len", "execs cons"].contains k.getString then `(tactic| (refine hold_of ?_)) else Lean.Macro.throwUnsupported
theorem st2 {prog : Program} {w : World} {s : Shared} {p : Program} {loose : List Str} {mean : ExcName → Option Value} {mg mb : Str → Option Value} {Q : Flow → Shared → Prop} {E : Value → Shared → Prop}
    {h₀ : Heap} {L fa sa : Addr} {cd : Value} {svs : List Value} {ns : List Int} {news : List (Addr × Obj)}
    (X : (hd.heap_39 w.params).In h₀) (T : Top p loose mean mg mb h₀) (hI : IntsAre svs ns) (hn : ns.length ≤ 63) (hl : h₀.IsList sa svs.toArray)
    (F : Fr h₀ L s.heap (fun y => if y = Str.ofString "script" then some (.ref sa) else none)) (N : News h₀ L s.heap news)
    (ret : ∀ h' tk (n : Nat) t, (n = 4 ∨ n = 3 ∧ ns.length ≤ 1) → Fr h₀ L h' (fun y => if y = Str.ofString "count" then some (.int n t) else if y = Str.ofString "script" then some (.ref sa) else none) → News h₀ L h' news →
      wpAny (model prog w) (AM 1) (execs (lawBody.drop 2) (lawEnv L fa cd)) Q E { s with heap := h', toks := tk }) :
    wpAny (model prog w) (AM 1) (execs (lawBody.drop 1) (lawEnv L fa cd)) Q E s := by
  revert prog w s p loose mean mg mb Q E h₀ L fa sa cd svs ns news X T hI hn hl F N ret
  show ∀ prog w s p loose mean mg mb Q E h₀ L fa sa cd svs ns news X T hI hn hl F N ret, _
  intro prog w s p loose mean mg mb Q E h₀ L fa sa cd svs ns news
  intros X T hI hn hl F N ret
  have hsv := IntsAre.length hI
  dsimp only [lawBody, the, List.drop]
  refine wpAny_execs_cons ?_
  try dsimp only
  k_steps
  refine hold_in ?_
  k_dflt (refine' Calls.call_len_list (items := svs.toArray) ?a ?b ?_; (case a => exact hl.at fun o e => F.keep _ o e); (case b => rw [List.size_toArray]; omega))
  rw [List.size_toArray, hsv]
  k_steps
  all_goals (rename Fr _ _ _ _ => lF'); (rename News _ _ _ _ => lN')
  all_goals refine hold_in ?_

  · exact ret _ _ 4 _ (.inl rfl) lF' lN'
  · exact ret _ _ 3 _ (.inr ⟨rfl, by omega⟩) lF' lN'
end Mine
end

section
theorem Mine.top_off_LN : True := by
  w_top off
  trivial
local macro_rules | `(tactic| omega) => `(tactic| first | lia | omega (config := {}))
open PySem PySem.W PyProof.Rows PySem.Spec PySem.Calls
namespace Mine
open PyProof.Rows.LCg (lst lst_snoc NsObj ns_obj fr_but news_but)
theorem k_filledLN : (hd.heap_39 = hd.heap_39) ∧ (PySem.Challenge.rw_re0068_01 = PySem.Challenge.rw_re0068_01) := by
  k_fill
  exact ⟨rfl, rfl⟩
local macro_rules | `(tactic| walk_at $k:str) => if ["execs cons", "eval ListComp", "pyIter ref"].contains k.getString then `(tactic| (refine hold_of ?_)) else Lean.Macro.throwUnsupported
local macro_rules | `(tactic| walk_at "eval Name") => `(tactic| (k_here; (with_reducible show wpAny _ _ (eval (Expr.Name _ _) (compEnvC _ _ _ _)) _ _ _); k_dflt (refine ldVarK (Fr.ns (by k_asm)) (by assumption) ?_)))
local macro_rules | `(tactic| walk_at "eval Name") => `(tactic| (k_here; (with_reducible show wpAny _ _ (eval (Expr.Name _ _) (envOfC _ _ _ _ _)) _ _ _); k_dflt (refine' nameX_L ?F ?v ?_ ?a ?b; (case F => k_asm); (case a => rfl); (case b => rfl); (case v => assumption))))
theorem namesO_len {o n : Nat} : (namesO o n).length = n := by unfold namesO; rw [List.length_map, List.length_range]
theorem menu_item : ∀ j : Nat, j < 8 → Txt.item (Str.ofString "a #b:-\t,") (j : Int) = letters.getD j Str.empty := by decide +kernel
theorem name_step {c0 c1 c2 : Int} {n i : Nat} {ys : List Value} {t : Tok} (hi : i < n) (h2 : 0 ≤ c2 ∧ c2 < 840) (h : StrsAre ys ((namesO (c2 % 8).toNat n).take i)) :
    StrsAre (ys ++ [.str (Txt.item (Str.ofString "a #b:-\t,") (Int.fmod ([c0, c1, c2].getD (Int.toNat 2) 0 + (0 + (i : Int) * 1)) 8)) t]) ((namesO (c2 % 8).toNat n).take (i + 1)) := by
  have e : (namesO (c2 % 8).toNat n).take (i + 1) = (namesO (c2 % 8).toNat n).take i ++ [Txt.item (Str.ofString "a #b:-\t,") (Int.fmod ([c0, c1, c2].getD (Int.toNat 2) 0 + (0 + (i : Int) * 1)) 8)] := by
    rw [List.take_add_one]
    congr 1
    have e1 : Int.fmod ([c0, c1, c2].getD (Int.toNat 2) 0 + (0 + (i : Int) * 1)) 8 = ((((c2 % 8).toNat + i) % 8 : Nat) : Int) := by
      show Int.fmod (c2 + (0 + (i : Int) * 1)) 8 = _
      rw [Int.fmod_eq_emod_of_nonneg _ (by decide)]
      omega
    rw [e1, menu_item _ (Nat.mod_lt _ (by decide))]
    unfold namesO
    rw [List.getElem?_map, List.getElem?_range hi]
    rfl
  rw [e]
  exact h.append' (.cons _ _ .nil)
noncomputable abbrev LawOff (L D : Addr) : Prop := (@Ne Nat (L + 1 + 1 + 1 + 1 + 1 + 1) D) ∧ (@Ne Nat (L + 1 + 1 + 1 + 1 + 1) D) ∧ (@Ne Nat (L + 1 + 1 + 1 + 1) D) ∧ (@Ne Nat (L + 1 + 1 + 1) D) ∧ (@Ne Nat (L + 1 + 1) D) ∧ (@Ne Nat (L + 1) D) ∧ (@Ne Nat 86 D)
theorem off_law {L D : Addr} {o1 o2 o3 o4 o5 o6 : Obj} {ps : Array Value} (off : ∀ p ∈ lawLed L o1 o2 o3 o4 o5 o6 ps, p.1 ≠ D) : LawOff L D :=
  ⟨off _ (.head _), off _ (.tail _ (.head _)), off _ (.tail _ (.tail _ (.head _))), off _ (.tail _ (.tail _ (.tail _ (.head _)))), off _ (.tail _ (.tail _ (.tail _ (.tail _ (.head _))))), off _ (.tail _ (.tail _ (.tail _ (.tail _ (.tail _ (.head _)))))), off _ (.tail _ (.tail _ (.tail _ (.tail _ (.tail _ (.tail _ (.head _))))))) ⟩
theorem st3 {prog : Program} {w : World} {s : Shared} {p : Program} {loose : List Str} {mean : ExcName → Option Value} {mg mb : Str → Option Value} {Q : Flow → Shared → Prop} {E : Value → Shared → Prop}
    {h₀ : Heap} {L fa : Addr} {cd : Value} {o1 o2 o3 o4 o5 o6 : Obj} {ps : Array Value} {m : Str → Option Value} {n cn : Nat} {tn : Tok} {ca : Addr} {c0 c1 c2 : Int} {t0 t1 t2 : Tok}
    (X : (hd.heap_39 w.params).In h₀) (T : Top p loose mean mg mb h₀) (hc2 : 0 ≤ c2 ∧ c2 < 840) (hn : n ≤ 4)
    (l0 : @LT.lt Nat _ 86 L) (lc : @LT.lt Nat _ (L + 1 + 1 + 1 + 1 + 1 + 1) ca) (d5 : o5.data = .cell none) (d6 : o6.data = .cell (some (.ref ca)))
    (hm : m (Str.ofString "count") = some (.int n tn))
    (F : Fr h₀ L s.heap m) (N : News h₀ L s.heap ((ca, W.listOf #[.int c0 t0, .int c1 t1, .int c2 t2] cn) :: lawLed L o1 o2 o3 o4 o5 o6 ps))
    (ret : ∀ h' tk g na nv nn o5', Fr h₀ L h' m → News h₀ L h' ((na, W.listOf nv.toArray nn) :: (ca, W.listOf #[.int c0 t0, .int c1 t1, .int c2 t2] cn) :: lawLed L o1 o2 o3 o4 o5' o6 ps) → o5'.data = .cell (some (.ref na)) → StrsAre nv (namesO (c2 % 8).toNat n) →
      @Ne Nat ca na → LawOff L na → (AllBare s.gens → AllBare g) → wpAny (model prog w) (AM 1) (execs (lawBody.drop 3) (lawEnv L fa cd)) Q E { s with heap := h', toks := tk, gens := g }) :
    wpAny (model prog w) (AM 1) (execs (lawBody.drop 2) (lawEnv L fa cd)) Q E s := by
  revert prog w s p loose mean mg mb Q E h₀ L fa cd o1 o2 o3 o4 o5 o6 ps m n cn tn ca c0 c1 c2 t0 t1 t2 X T hc2 hn l0 lc d5 d6 hm F N ret
  show ∀ prog w s p loose mean mg mb Q E h₀ L fa cd o1 o2 o3 o4 o5 o6 ps m n cn tn ca c0 c1 c2 t0 t1 t2 X T hc2 hn l0 lc d5 d6 hm F N ret, _
  intro prog w s p loose mean mg mb Q E h₀ L fa cd o1 o2 o3 o4 o5 o6 ps m n cn tn ca c0 c1 c2 t0 t1 t2
  intros X T hc2 hn l0 lc d5 d6 hm F N ret
  dsimp only [lawBody, the, List.drop]
  dsimp only [lawLed] at N
  refine wpAny_execs_cons ?_
  try dsimp only
  k_steps
  refine hold_in ?_
  k_dflt (refine lc_eval (by with_unfolding_all rfl) rfl (by decide) ?_)
  k_steps
  (rename Fr _ _ _ _ => lF'); (rename News _ _ _ _ => lN'); (rename IsRange _ _ _ _ _ _ _ _ => rgX)
  refine hold_in (comp_range (σ := Unit) (n := n) (fun _ => (ca, W.listOf #[.int c0 t0, .int c1 t1, .int c2 t2] cn) :: lawLed L o1 o2 o3 o4 o5 o6 ps) (fun i _ ys => StrsAre ys ((namesO (c2 % 8).toNat n).take i)) () rfl rgX (small_one (by omega) (by omega) (by omega) (by omega)) (by rw [rangeSize_one]; split <;> omega) (by rw [sizeLine_eq]; omega) (by decide) rfl rfl lF' lN' .nil ?_)
  intro g
  refine CompOf.none ?_ ?_
  · clear lF' lN'
    intro c i v ys m₂ h tk g D C oI oL hi
    intros hv
    obtain ⟨k, hr1⟩ := hv
    revert k hr1
    intro k hr1 hP hg off hk F' N'
    obtain rfl := hr1
    dsimp only [lawLed, List.cons_append, List.nil_append] at N'
    refine wpAny_tests_nil ?_
    rw [if_pos rfl]
    k_steps
    (rename Fr _ _ _ _ => lF'); (rename News _ _ _ _ => lN')
    refine q_end () lF' lN' hg (by lcg_sub) (by dsimp only [lawLed]; lcg_sub) off ?_
    exact name_step hi hc2 hP
  · clear lF' lN'
    intro c ys D h tk g hys hyl hg off F' N'
    dsimp only [lawLed] at N'
    (try dsimp only)
    rw [List.take_of_length_le (by exact Nat.le_of_eq namesO_len)] at hys
    have off2 := off_law fun p hp => off p (.tail _ hp)
    have off3 : @Ne Nat ca D := off _ (.head _)
    k_steps
    (rename Fr _ _ _ _ => lF'); (rename News _ _ _ _ => lN')
    rename_i d9
    refine hold_in ?_
    exact ret _ _ _ _ _ _ _ lF' lN' d9 hys off3 off2 hg
end Mine
end

section
theorem Mine.top_off_LE : True := by
  w_top off
  trivial
local macro_rules | `(tactic| omega) => `(tactic| first | lia | omega (config := {}))
open PySem PySem.W PyProof.Rows PySem.Spec PySem.Calls
namespace Mine
open PyProof.Rows.LCg (lst lst_snoc NsObj ns_obj fr_but news_but)
theorem k_filledLE : (hd.heap_39 = hd.heap_39) ∧ (PySem.Challenge.rw_re0068_01 = PySem.Challenge.rw_re0068_01) := by
  k_fill
  exact ⟨rfl, rfl⟩
/-- what is made and no longer changed -/
noncomputable def FxOff (L : Addr) (fx : List (Addr × Obj)) : Prop := ∀ p ∈ fx, LawOff L p.1
theorem new_ne {h₀ h : Heap} {L a : Addr} {news : List (Addr × Obj)} (N : News h₀ L h news) (ha : h.get? a = none) : ∀ p ∈ news, p.1 ≠ a := fun p hp e => by
  have := (N p hp).1
  rw [e, ha] at this; cases this
theorem new_in {h₀ h : Heap} {L a : Addr} {m : Str → Option Value} (F : Fr h₀ L h m) (ha : h.get? a = none) : a ≠ L ∧ h₀.get? a = none := by
  refine ⟨fun e => ?_, ?_⟩
  · obtain ⟨o, _, _, hgo, _⟩ := F.ns
    rw [← e, ha] at hgo; cases hgo
  · cases q : h₀.get? a with
    | none => rfl
    | some o => have := F.keep a o q; rw [ha] at this; cases this
theorem st_cell {prog : Program} {w : World} {A : Around} {E : Value → Shared → Prop} {s : Shared} {h₀ : Heap} {L fa : Addr} {cd : Value} {m : Str → Option Value} {x : Str} {c : Addr} {o : Obj} {v₀ : Option Value} {v : Value} {own rest fx : List (Addr × Obj)} {Q : Unit → Shared → Prop}
    (F : Fr h₀ L s.heap m) (N : News h₀ L s.heap ((own ++ (c, o) :: rest) ++ fx)) (hfx : ∀ p ∈ fx, p.1 ≠ c)
    (hc : (cellsFrom (L + 1) lawScope.names []).lookup x = some c) (hd : o.data = .cell v₀) (h1 : ∀ p ∈ own, p.1 ≠ c) (h2 : ∀ p ∈ rest, p.1 ≠ c) (hl : (lawEnv L fa cd).kindOf x = some .cell)
    (h : ∀ h' o', Fr h₀ L h' m → News h₀ L h' ((own ++ (c, o') :: rest) ++ fx) → o'.data = .cell (some v) → Q () { s with heap := h' }) :
    wpAny (model prog w) A (storeName (lawEnv L fa cd) x v) Q E s := by
  refine stCN (own := own) (rest := rest ++ fx) F (by simpa [List.append_assoc] using N) hc hd h1 (fun p hp => ?_) (fun h' o' F' N' d' => h h' o' F' (by simpa [List.append_assoc] using N') d') rfl hl
  rcases List.mem_append.mp hp with hp | hp
  · exact h2 p hp
  · exact hfx p hp
local macro_rules | `(tactic| walk_at $k:str) => if ["execs cons", "call ref", "storeName"].contains k.getString then `(tactic| (refine hold_of ?_)) else Lean.Macro.throwUnsupported
local macro_rules | `(tactic| walk_at "eval Name") => `(tactic| (k_here; (with_reducible show wpAny _ _ (eval (Expr.Name _ _) (envOfC _ _ _ _ _)) _ _ _); k_dflt (refine' nameX_L ?F ?v ?_ ?a ?b; (case F => k_asm); (case a => rfl); (case b => rfl); (case v => assumption))))
theorem st4 {prog : Program} {w : World} {s : Shared} {p : Program} {loose : List Str} {mean : ExcName → Option Value} {mg mb : Str → Option Value} {Q : Flow → Shared → Prop} {E : Value → Shared → Prop}
    {h₀ : Heap} {L fa : Addr} {cd : Value} {o1 o2 o3 o4 o5 o6 : Obj} {ps : Array Value} {m : Str → Option Value} {n : Nat} {tn : Tok} {fx : List (Addr × Obj)}
    (X : (hd.heap_39 w.params).In h₀) (T : Top p loose mean mg mb h₀) (hn : n ≤ 4)
    (l0 : @LT.lt Nat _ 86 L) (d4 : o4.data = .cell none) (hfx : FxOff L fx)
    (hm : m (Str.ofString "count") = some (.int n tn))
    (F : Fr h₀ L s.heap m) (N : News h₀ L s.heap (lawLed L o1 o2 o3 o4 o5 o6 ps ++ fx))
    (ret : ∀ h' tk g fx' ea ev en o4', Fr h₀ L h' m → News h₀ L h' (lawLed L o1 o2 o3 o4' o5 o6 ps ++ fx') → FxOff L fx' → (∀ p ∈ fx, p ∈ fx') → o4'.data = .cell (some (.ref ea)) → (ea, W.listOf ev.toArray en) ∈ fx' → RowsIn fx' ev (allRows n) →
      (AllBare s.gens → AllBare g) → wpAny (model prog w) (AM 1) (execs (lawBody.drop 4) (lawEnv L fa cd)) Q E { s with heap := h', toks := tk, gens := g }) :
    wpAny (model prog w) (AM 1) (execs (lawBody.drop 3) (lawEnv L fa cd)) Q E s := by
  revert prog w s p loose mean mg mb Q E h₀ L fa cd o1 o2 o3 o4 o5 o6 ps m n tn fx X T hn l0 d4 hfx hm F N ret
  show ∀ prog w s p loose mean mg mb Q E h₀ L fa cd o1 o2 o3 o4 o5 o6 ps m n tn fx X T hn l0 d4 hfx hm F N ret, _
  intro prog w s p loose mean mg mb Q E h₀ L fa cd o1 o2 o3 o4 o5 o6 ps m n tn fx
  intros X T hn l0 d4 hfx hm F N ret
  dsimp only [lawBody, the, List.drop]
  refine wpAny_execs_cons ?_
  try dsimp only
  k_steps
  refine hold_in ?_
  refine am_weak (n := 5) (ends_spec hn (X.keeps F.keep) (T.keeps F.keep) ?_) rfl (by decide) (by decide)
  intro h1 tk1 g1 r vs nn objs kp hg hr hget hobjs hrows
  have F1 := fr_kp F kp
  have N1 := news_kp N kp
  have hr1 := new_in F hr
  have hr2 := new_ne N hr
  have N2 : News h₀ L h1 (lawLed L o1 o2 o3 o4 o5 o6 ps ++ ((r, W.listOf vs.toArray nn) :: objs ++ fx)) := fun p hp => by
    rcases List.mem_append.mp hp with hp | hp
    · exact N1 p (List.mem_append_left _ hp)
    · rcases List.mem_append.mp hp with hp | hp
      · rcases List.mem_cons.mp hp with rfl | hp
        · exact ⟨hget, hr1⟩
        · exact ⟨(hobjs p hp).2, new_in F (hobjs p hp).1⟩
      · exact N1 p (List.mem_append_right _ hp)
  have hfx2 : FxOff L ((r, W.listOf vs.toArray nn) :: objs ++ fx) := fun p hp => by
    rcases List.mem_append.mp hp with hp | hp
    · rcases List.mem_cons.mp hp with rfl | hp
      · exact off_law fun q hq => hr2 q (List.mem_append_left _ hq)
      · exact off_law fun q hq => new_ne N (hobjs p hp).1 q (List.mem_append_left _ hq)
    · exact hfx p hp
  have hx2 : ∀ p ∈ fx, p ∈ (r, W.listOf vs.toArray nn) :: objs ++ fx := fun p hp => List.mem_append_right _ hp
  have hrw : RowsIn ((r, W.listOf vs.toArray nn) :: objs ++ fx) vs (allRows n) := hrows.mono fun p hp => List.mem_append_left _ (.tail _ hp)
  have hea : (r, W.listOf vs.toArray nn) ∈ (r, W.listOf vs.toArray nn) :: objs ++ fx := .head _
  generalize (r, W.listOf vs.toArray nn) :: objs ++ fx = fy at *
  clear N1 F N hfx
  k_steps
  refine hold_in ?_
  refine st_cell (own := [(L + 1 + 1 + 1 + 1 + 1 + 1, o1), (L + 1 + 1 + 1 + 1 + 1, o2), (L + 1 + 1 + 1 + 1, o3)]) (rest := [(L + 1 + 1, o5), (L + 1, o6), (86, tabObj ps)]) F1 N2 (fun p hp => Ne.symm (hfx2 p hp).2.2.2.1) rfl d4 ?_ ?_ rfl ?_
  · refine List.forall_mem_cons.mpr ⟨?_, List.forall_mem_cons.mpr ⟨?_, List.forall_mem_cons.mpr ⟨?_, List.forall_mem_nil _⟩⟩⟩ <;> (show @Ne Nat _ _; omega)
  · refine List.forall_mem_cons.mpr ⟨?_, List.forall_mem_cons.mpr ⟨?_, List.forall_mem_cons.mpr ⟨?_, List.forall_mem_nil _⟩⟩⟩ <;> (show @Ne Nat _ _; omega)
  · intro h2 o4' F2 N2 d4'
    k_steps
    refine hold_in ?_
    exact ret _ _ _ _ _ _ _ _ F2 N2 hfx2 hx2 d4' hea hrw hg
end Mine
end

section
theorem Mine.top_off_LF : True := by
  w_top off
  trivial
local macro_rules | `(tactic| walk_at "idle") => `(tactic| skip)
local macro_rules | `(tactic| omega) => `(tactic| first | lia | omega (config := {}))
open PySem PySem.W PyProof.Rows PySem.Spec PySem.Calls
namespace Mine
open PyProof.Rows.LCg (lst lst_snoc NsObj ns_obj fr_but news_but)
theorem k_filledLF : (hd.heap_39 = hd.heap_39) ∧ (PySem.Challenge.rw_re0068_01 = PySem.Challenge.rw_re0068_01) := by
  k_fill
  exact ⟨rfl, rfl⟩
/-- the row that a cell names -/
noncomputable def rowAt (n : Nat) (c : Int) : List Int := (allRows n).getD (Int.fmod c ((allRows n).length : Nat)).toNat []
theorem rows_len : (allRows 4).length = 14 ∧ (allRows 3).length = 5 := by decide +kernel
theorem news_cons {h₀ h : Heap} {L : Addr} {a : List (Addr × Obj)} {p : Addr × Obj} (N : News h₀ L h a) (hp : p ∈ a) : News h₀ L h (p :: a) := fun q hq => by
  rcases List.mem_cons.mp hq with rfl | hq
  · exact N _ hp
  · exact N _ hq
theorem lst_here {h₀ h : Heap} {L a : Addr} {vs : List Value} {nn : Nat} {news : List (Addr × Obj)} (N : News h₀ L h news) (hm : (a, W.listOf vs.toArray nn) ∈ news) : h.IsList a vs.toArray := ⟨_, (N _ hm).1, rfl, _, rfl⟩
theorem q_keep {σ : Type} {h₀ : Heap} {C D I L : Addr} {s : Shared} {own : List (Addr × Obj)} {Led : σ → List (Addr × Obj)} {P : σ → List Value → Prop} {ys : List Value} {h' : Heap} {tk : Nat} {g : Array GenState} {m' : Str → Option Value} (c : σ)
    (F : Fr h₀ C h' m') (N : News h₀ C h' (Led c ++ own)) (hg : AllBare s.gens → AllBare g) (hn : ∀ p ∈ Led c, p.1 ≠ D ∧ p.1 ≠ I ∧ p.1 ≠ L) (hp : P c ys) :
    QEnd h₀ C D I L s own Led P ys { s with heap := h', toks := tk, gens := g } := q_end c F N hg (fun p hp => List.mem_append_right _ hp) (fun p hp => List.mem_append_left _ hp) hn hp
theorem rows_snoc {fx : List (Addr × Obj)} {vs ys : List Value} {es out : List (List Int)} {i j : Nat} {v : Value} (h : RowsIn fx vs es) (hv : vs[j]? = some v) (ho : out[i]? = some (es.getD j [])) (hy : RowsIn fx ys (out.take i)) : RowsIn fx (ys ++ [v]) (out.take (i + 1)) := by
  obtain ⟨a, us, nn, e, rfl, h1, h2, h3⟩ := h.get hv
  rw [List.take_add_one, ho]
  have : es.getD j [] = e := by rw [List.getD, h3]; rfl
  rw [this]
  exact hy.snoc h1 h2
local macro_rules | `(tactic| lcg_sub) => `(tactic| (intro p hp; (repeat (first | exact hp | apply List.mem_cons_of_mem)); done))
local macro_rules | `(tactic| walk_at $k:str) => if ["execs cons", "call builtin:len", "pyIter ref", "exec Assign cons ListComp"].contains k.getString then `(tactic| (refine hold_of ?_)) else Lean.Macro.throwUnsupported
local macro_rules | `(tactic| walk_at "eval Name") => `(tactic| (k_here; (with_reducible show wpAny _ _ (eval (Expr.Name _ _) (compEnvC _ _ _ _)) _ _ _); k_dflt (refine ldVarK (Fr.ns (by k_asm)) (by assumption) ?_)))
theorem st5 {prog : Program} {w : World} {s : Shared} {p : Program} {loose : List Str} {mean : ExcName → Option Value} {mg mb : Str → Option Value} {Q : Flow → Shared → Prop} {E : Value → Shared → Prop}
    {h₀ : Heap} {L fa : Addr} {cd : Value} {o1 o2 o3 o4 o5 o6 : Obj} {ps : Array Value} {m : Str → Option Value} {n : Nat} {fx : List (Addr × Obj)} {ca ea : Addr} {c0 c1 c2 : Int} {t0 t1 t2 : Tok} {cn en : Nat} {ev : List Value}
    (X : (hd.heap_39 w.params).In h₀) (T : Top p loose mean mg mb h₀) (hn : n = 4 ∨ n = 3)
    (l0 : @LT.lt Nat _ 86 L) (d4 : o4.data = .cell (some (.ref ea))) (d6 : o6.data = .cell (some (.ref ca))) (hfx : FxOff L fx)
    (hca : (ca, W.listOf #[.int c0 t0, .int c1 t1, .int c2 t2] cn) ∈ fx) (hea : (ea, W.listOf ev.toArray en) ∈ fx) (hev : RowsIn fx ev (allRows n)) (b0 : 0 ≤ c0 ∧ c0 < 840) (b1 : 0 ≤ c1 ∧ c1 < 840)
    (F : Fr h₀ L s.heap m) (N : News h₀ L s.heap (lawLed L o1 o2 o3 o4 o5 o6 ps ++ fx))
    (ret : ∀ h' tk g fx' la lv nn, Fr h₀ L h' (fun z => if z = Str.ofString "lower" then some (.ref la) else m z) → News h₀ L h' (lawLed L o1 o2 o3 o4 o5 o6 ps ++ fx') → FxOff L fx' → (∀ p ∈ fx, p ∈ fx') → (la, W.listOf lv.toArray nn) ∈ fx' → RowsIn fx' lv [rowAt n c0, rowAt n c1] →
      (AllBare s.gens → AllBare g) → wpAny (model prog w) (AM 1) (execs (lawBody.drop 5) (lawEnv L fa cd)) Q E { s with heap := h', toks := tk, gens := g }) :
    wpAny (model prog w) (AM 1) (execs (lawBody.drop 4) (lawEnv L fa cd)) Q E s := by
  revert prog w s p loose mean mg mb Q E h₀ L fa cd o1 o2 o3 o4 o5 o6 ps m n fx ca ea c0 c1 c2 t0 t1 t2 cn en ev X T hn l0 d4 d6 hfx hca hea hev b0 b1 F N ret
  show ∀ prog w s p loose mean mg mb Q E h₀ L fa cd o1 o2 o3 o4 o5 o6 ps m n fx ca ea c0 c1 c2 t0 t1 t2 cn en ev X T hn l0 d4 d6 hfx hca hea hev b0 b1 F N ret, _
  intro prog w s p loose mean mg mb Q E h₀ L fa cd o1 o2 o3 o4 o5 o6 ps m n fx ca ea c0 c1 c2 t0 t1 t2 cn en ev
  intros X T hn l0 d4 d6 hfx hca hea hev b0 b1 F N ret
  have hlen := hev.length
  have hK : 0 < (allRows n).length ∧ (allRows n).length ≤ 14 := by
    rcases hn with rfl | rfl
    · rw [rows_len.1]; decide
    · rw [rows_len.2]; decide
  have N1 := news_cons N (List.mem_append_right _ hca)
  dsimp only [lawBody, the, List.drop]
  dsimp only [lawLed, List.cons_append, List.nil_append] at N1
  refine wpAny_execs_cons ?_
  try dsimp only
  k_steps
  refine hold_in ?_
  k_dflt (refine lc_assign (by with_unfolding_all rfl) (by with_unfolding_all rfl) rfl (by decide) ?_)
  k_steps
  (rename Fr _ _ _ _ => lF'); (rename News _ _ _ _ => lN')
  rename_i D1 h1 l1
  have zD1 := lN' (D1, _) (.head _)
  refine hold_in (comp_list (σ := Unit) (items := #[Value.int c0 t0, Value.int c1 t1]) (fun _ => (D1, W.listOf #[Value.int c0 t0, Value.int c1 t1] 0) :: lawLed L o1 o2 o3 o4 o5 o6 ps ++ fx) (fun i _ ys => RowsIn fx ys ([rowAt n c0, rowAt n c1].take i)) () rfl ⟨_, zD1.1, rfl, 0, rfl⟩ (.inr ⟨_, fun _ => .head _⟩) (Nat.le_of_ble_eq_true rfl) (by decide) rfl rfl lF' (news_sub lN' (by dsimp only [lawLed, List.cons_append, List.nil_append]; lcg_sub)) .nil ?_)
  intro g
  refine CompOf.some rfl rfl rfl ?_ ?_
  · clear lF' lN'
    intro c i v ys m₂ h tk g D C oI oL hi hv hP hg off hm F' N'
    have hv2 : ∃ (k : Int) (t : Tok), v = .int k t ∧ (0 ≤ k ∧ k < 840) ∧ [rowAt n c0, rowAt n c1][i]? = some (rowAt n k) := by
      match i, hi with
      | 0, _ => cases hv; exact ⟨c0, t0, rfl, b0, rfl⟩
      | 1, _ => cases hv; exact ⟨c1, t1, rfl, b1, rfl⟩
    obtain ⟨k, t, hr1, hk, hrow⟩ := hv2
    revert k t hr1 hk hrow
    intro k t hr1 hk hrow
    obtain rfl := hr1
    clear hv
    dsimp only [lawLed, List.cons_append, List.nil_append] at N'
    refine wpAny_tests_nil ?_
    rw [if_pos rfl]
    k_steps
    refine hold_in ?_
    (rename Fr _ _ _ _ => lF'); (rename News _ _ _ _ => lN')
    k_dflt (refine' Calls.call_len_list (items := ev.toArray) ?lsa ?lsb ?_; (case lsa => exact lst_here lN' (by repeat (first | exact List.mem_append_left _ hea | apply List.mem_cons_of_mem))); (case lsb => rw [List.size_toArray]; omega))
    rw [List.size_toArray, hlen]
    k_steps
    (rename Fr _ _ _ _ => lF'); (rename News _ _ _ _ => lN')
    have hb : 0 ≤ Int.fmod k ((allRows n).length : Nat) ∧ Int.fmod k ((allRows n).length : Nat) < ((allRows n).length : Nat) := ⟨Int.fmod_nonneg_of_pos _ (by omega), Int.fmod_lt_of_pos _ (by omega)⟩
    obtain ⟨v, hv⟩ : ∃ v, ev[(Int.fmod k ((allRows n).length : Nat)).toNat]? = some v := ⟨_, List.getElem?_eq_getElem (by omega)⟩
    revert v hv
    intro v hv
    refine item_litK (lst_here lN' (by repeat (first | exact List.mem_append_left _ hea | apply List.mem_cons_of_mem))) hb.1 (by omega) hv ?_
    exact q_keep () lF' lN' hg off (rows_snoc hev hv hrow hP)
  · clear lF' lN'
    intro c ys D h tk g hys hyl hg off F' N'
    have hys2 : RowsIn fx ys [rowAt n c0, rowAt n c1] := hys
    refine ret h tk g ((D, lst ys) :: fx) D ys ys.length F' (fun p hp => ?_) (fun p hp => ?_) (fun p hp => .tail _ hp) (.head _) (hys2.mono fun p hp => .tail _ hp) hg
    · rcases List.mem_append.mp hp with hp | hp
      · exact N' p (.tail _ (List.mem_append_left fx (.tail _ hp)))
      · rcases List.mem_cons.mp hp with rfl | hp
        · exact N' _ (.head _)
        · exact N' p (.tail _ (List.mem_append_right _ hp))
    · rcases List.mem_cons.mp hp with rfl | hp
      · exact off_law fun q hq => off q (List.mem_append_left fx (.tail _ hq))
      · exact hfx p hp
end Mine
end

section
theorem Mine.top_off_LG : True := by
  w_top off
  trivial
local macro_rules | `(tactic| walk_at "idle") => `(tactic| skip)
local macro_rules | `(tactic| omega) => `(tactic| first | lia | omega (config := {}))
open PySem PySem.W PyProof.Rows PySem.Spec PySem.Calls
namespace Mine
open PyProof.Rows.LCg (lst lst_snoc NsObj ns_obj fr_but news_but)
theorem k_filledLG : (hd.heap_39 = hd.heap_39) ∧ (PySem.Challenge.rw_re0068_01 = PySem.Challenge.rw_re0068_01) := by
  k_fill
  exact ⟨rfl, rfl⟩
theorem strs_step {α : Type} {l : List α} {f : α → Str} {i : Nat} {a : α} {ys : List Value} {t : Tok} (h : StrsAre ys ((l.map f).take i)) (ha : l[i]? = some a) : StrsAre (ys ++ [.str (f a) t]) ((l.map f).take (i + 1)) := by
  rw [List.take_add_one, List.getElem?_map, ha]
  exact h.append' (.cons _ _ .nil)
theorem names_letters {o n : Nat} : ∀ x ∈ namesO o n, x ∈ letters := by
  intros x hx
  unfold namesO at hx
  obtain ⟨k, _, rfl⟩ := List.mem_map.mp hx
  have : (o + k) % 8 < letters.length := Nat.mod_lt _ (by decide)
  rw [List.getD, List.getElem?_eq_getElem this]
  exact List.getElem_mem _
theorem letter_len : ∀ x ∈ letters, x.length = 1 := by decide +kernel
local macro_rules | `(tactic| walk_at $k:str) => if ["execs cons", "call ref", "pyIter ref", "exec Assign cons ListComp"].contains k.getString then `(tactic| (refine hold_of ?_)) else Lean.Macro.throwUnsupported
local macro_rules | `(tactic| walk_at "eval Name") => `(tactic| (k_here; (with_reducible show wpAny _ _ (eval (Expr.Name _ _) (compEnvC _ _ _ _)) _ _ _); k_dflt (refine ldVarK (Fr.ns (by k_asm)) (by assumption) ?_)))
local macro_rules | `(tactic| walk_at "eval Name") => `(tactic| (k_here; (with_reducible show wpAny _ _ (eval (Expr.Name _ _) (envOfC _ _ _ _ _)) _ _ _); k_dflt (refine' nameX_L ?F ?v ?_ ?a ?b; (case F => k_asm); (case a => rfl); (case b => rfl); (case v => assumption))))
theorem st6 {prog : Program} {w : World} {s : Shared} {p : Program} {loose : List Str} {mean : ExcName → Option Value} {mg mb : Str → Option Value} {Q : Flow → Shared → Prop} {E : Value → Shared → Prop}
    {h₀ : Heap} {L fa : Addr} {cd : Value} {o1 o2 o3 o4 o5 o6 : Obj} {ps : Array Value} {m : Str → Option Value} {o n : Nat} {fx : List (Addr × Obj)} {la na : Addr} {lv nv : List Value} {ln nn : Nat} {rs : List (List Int)}
    (X : (hd.heap_39 w.params).In h₀) (T : Top p loose mean mg mb h₀) (hn : n ≤ 4)
    (l0 : @LT.lt Nat _ 86 L) (d5 : o5.data = .cell (some (.ref na))) (hfx : FxOff L fx) (hm : m (Str.ofString "lower") = some (.ref la))
    (hla : (la, W.listOf lv.toArray ln) ∈ fx) (hlv : RowsIn fx lv rs) (hna : (na, W.listOf nv.toArray nn) ∈ fx) (hnv : StrsAre nv (namesO o n)) (hrs : ∀ e ∈ rs, e.length = n) (hrl : rs.length ≤ 64)
    (F : Fr h₀ L s.heap m) (N : News h₀ L s.heap (lawLed L o1 o2 o3 o4 o5 o6 ps ++ fx))
    (ret : ∀ h' tk g fx' sa sv sn, Fr h₀ L h' (fun z => if z = Str.ofString "starts" then some (.ref sa) else m z) → News h₀ L h' (lawLed L o1 o2 o3 o4 o5 o6 ps ++ fx') → FxOff L fx' → (∀ p ∈ fx, p ∈ fx') → (sa, W.listOf sv.toArray sn) ∈ fx' → StrsAre sv (rs.map fun e => rowF e (namesO o n)) →
      (AllBare s.gens → AllBare g) → wpAny (model prog w) (AM 1) (execs (lawBody.drop 6) (lawEnv L fa cd)) Q E { s with heap := h', toks := tk, gens := g }) :
    wpAny (model prog w) (AM 1) (execs (lawBody.drop 5) (lawEnv L fa cd)) Q E s := by
  revert prog w s p loose mean mg mb Q E h₀ L fa cd o1 o2 o3 o4 o5 o6 ps m o n fx la na lv nv ln nn rs X T hn l0 d5 hfx hm hla hlv hna hnv hrs hrl F N ret
  show ∀ prog w s p loose mean mg mb Q E h₀ L fa cd o1 o2 o3 o4 o5 o6 ps m o n fx la na lv nv ln nn rs X T hn l0 d5 hfx hm hla hlv hna hnv hrs hrl F N ret, _
  intro prog w s p loose mean mg mb Q E h₀ L fa cd o1 o2 o3 o4 o5 o6 ps m o n fx la na lv nv ln nn rs
  intros X T hn l0 d5 hfx hm hla hlv hna hnv hrs hrl F N ret
  have hlen := hlv.length
  have N1 := N
  dsimp only [lawBody, the, List.drop]
  dsimp only [lawLed, List.cons_append, List.nil_append] at N1
  refine wpAny_execs_cons ?_
  try dsimp only
  k_steps
  refine hold_in ?_
  k_dflt (refine lc_assign (by with_unfolding_all rfl) (by with_unfolding_all rfl) rfl (by decide) ?_)
  k_steps
  refine hold_in (comp_list (σ := Unit) (items := lv.toArray) (fun _ => lawLed L o1 o2 o3 o4 o5 o6 ps ++ fx) (fun i _ ys => StrsAre ys ((rs.map fun e => rowF e (namesO o n)).take i)) () rfl (lst_here N (List.mem_append_right _ hla)) (.inr ⟨_, fun _ => List.mem_append_right _ hla⟩) (by rw [sizeLine_eq, List.size_toArray]; omega) (by decide) rfl rfl F N .nil ?_)
  intro g
  refine CompOf.some rfl rfl rfl ?_ ?_
  · clear F N N1
    intro c i v ys m₂ h tk g D C oI oL hi hv hP hg off hm F' N'
    obtain ⟨a, us, an, e, hr1, ha, hus, he⟩ := hlv.get (by simpa using hv)
    revert a us an e hr1 ha hus he
    intro a us an e hr1 ha hus he
    obtain rfl := hr1
    dsimp only [lawLed, List.cons_append, List.nil_append] at N'
    refine wpAny_tests_nil ?_
    rw [if_pos rfl]
    k_steps
    (rename Fr _ _ _ _ => lF'); (rename News _ _ _ _ => lN')
    refine hold_in ?_
    have hes : e.length = (namesO o n).length := (hrs e (List.mem_of_getElem? he)).trans namesO_len.symm
    refine am_weak (n := 4) (row_spec (lst_here lN' (by repeat (first | exact List.mem_append_left _ ha | apply List.mem_cons_of_mem))) hus (lst_here lN' (by repeat (first | exact List.mem_append_left _ hna | apply List.mem_cons_of_mem))) hnv names_letters (by rw [namesO_len]; omega) hes (X.keeps lF'.keep) (T.keeps lF'.keep) ?_) rfl (by decide) (by decide)
    intro h2 tk2 t2 kp
    exact q_keep () (fr_kp lF' kp) (news_kp lN' kp) hg off (strs_step hP he)
  · clear F N N1
    intro c ys D h tk g hys hyl hg off F' N'
    have hys2 : StrsAre ys (rs.map fun e => rowF e (namesO o n)) := by
      rw [List.take_of_length_le (by rw [List.length_map, List.size_toArray]; omega)] at hys
      exact hys
    refine ret h tk g ((D, lst ys) :: fx) D ys ys.length F' (fun p hp => ?_) (fun p hp => ?_) (fun p hp => .tail _ hp) (.head _) hys2 hg
    · rcases List.mem_append.mp hp with hp | hp
      · exact N' p (.tail _ (List.mem_append_left fx hp))
      · rcases List.mem_cons.mp hp with rfl | hp
        · exact N' _ (.head _)
        · exact N' p (.tail _ (List.mem_append_right _ hp))
    · rcases List.mem_cons.mp hp with rfl | hp
      · exact off_law fun q hq => off q (List.mem_append_left fx hq)
      · exact hfx p hp
end Mine
end

section
theorem Mine.top_off_LH : True := by
  w_top off
  trivial
local macro_rules | `(tactic| omega) => `(tactic| first | lia | omega (config := {}))
open PySem PySem.W PyProof.Rows PySem.Spec PySem.Calls
namespace Mine
open PyProof.Rows.LCg (lst lst_snoc NsObj ns_obj fr_but news_but)
theorem k_filledLH : (hd.heap_39 = hd.heap_39) ∧ (PySem.Challenge.rw_re0068_01 = PySem.Challenge.rw_re0068_01) := by
  k_fill
  exact ⟨rfl, rfl⟩
/-- the lexer's addresses -/
noncomputable def lexKeys (l : LexA) : List Addr := l.xi :: l.dx :: l.pb :: l.fs :: l.ds :: l.al :: l.fix.map (·.1)
theorem lex_keys {w : World} {l : LexA} {line : Int} {tl : Tok} {vs : List Value} {np : Nat} {pos : Int} {tp : Tok} {na : Nat} : (l.objs w line tl vs np pos tp na).map (·.1) = lexKeys l := rfl
theorem lex_key {w : World} {l : LexA} {line : Int} {tl : Tok} {vs : List Value} {np : Nat} {pos : Int} {tp : Tok} {na : Nat} {p : Addr × Obj} (hp : p ∈ l.objs w line tl vs np pos tp na) : p.1 ∈ lexKeys l := lex_keys (w := w) ▸ List.mem_map_of_mem (f := (·.1)) hp
noncomputable def LexAp (l : LexA) (a : Addr) : Prop := a ∉ lexKeys l
noncomputable def bareAt (c2 : Int) : Int := Int.fmod (Int.fdiv c2 8) 2
theorem bare_range (c2 : Int) : 0 ≤ bareAt c2 ∧ bareAt c2 ≤ 1 := by
  have h1 := Int.fmod_nonneg_of_pos (Int.fdiv c2 8) (show (0 : Int) < 2 by decide)
  have h2 := Int.fmod_lt_of_pos (Int.fdiv c2 8) (show (0 : Int) < 2 by decide)
  unfold bareAt; omega
local macro_rules | `(tactic| walk_at $k:str) => if ["execs cons", "call ref", "pyIter ref", "eval ListComp", "call builtin:str.join", "storeName"].contains k.getString then `(tactic| (refine hold_of ?_)) else Lean.Macro.throwUnsupported
local macro_rules | `(tactic| walk_at "eval Name") => `(tactic| (k_here; (with_reducible show wpAny _ _ (eval (Expr.Name _ _) (compEnvC _ _ _ _)) _ _ _); k_dflt (refine ldVarK (Fr.ns (by k_asm)) (by assumption) ?_)))
local macro_rules | `(tactic| walk_at "eval Name") => `(tactic| (k_here; (with_reducible show wpAny _ _ (eval (Expr.Name _ _) (envOfC _ _ _ _ _)) _ _ _); k_dflt (refine' nameX_L ?F ?v ?_ ?a ?b; (case F => k_asm); (case a => rfl); (case b => rfl); (case v => assumption))))
theorem st7 {prog : Program} {w : World} {s : Shared} {p : Program} {loose : List Str} {mean : ExcName → Option Value} {mg mb : Str → Option Value} {Q : Flow → Shared → Prop} {E : Value → Shared → Prop}
    {h₀ : Heap} {L fa : Addr} {cd : Value} {o1 o2 o3 o4 o5 o6 : Obj} {m : Str → Option Value} {fx : List (Addr × Obj)} {ca sa : Addr} {sv : List Value} {cn sn : Nat} {x0 x1 : Str} {c0 c1 c2 : Int} {t0 t1 t2 : Tok}
    (X : (hd.heap_39 w.params).In h₀) (T : Top p loose mean mg mb h₀) (C : CodeHd h₀ 90 86)
    (l0 : @LT.lt Nat _ 86 L) (d3 : o3.data = .cell none) (d6 : o6.data = .cell (some (.ref ca))) (hfx : FxOff L fx) (hm : m (Str.ofString "starts") = some (.ref sa))
    (hca : (ca, W.listOf #[.int c0 t0, .int c1 t1, .int c2 t2] cn) ∈ fx) (b2 : 0 ≤ c2 ∧ c2 < 840)
    (hsa : (sa, W.listOf sv.toArray sn) ∈ fx) (hsv : StrsAre sv [x0, x1]) (k0 : txOk x0 = true) (k1 : txOk x1 = true)
    (F : Fr h₀ L s.heap m) (N : News h₀ L s.heap (lawLed L o1 o2 o3 o4 o5 o6 #[] ++ fx))
    (ret : ∀ h' tk g o3' ps (l : LexA) tl tp na, Fr h₀ L h' m → News h₀ L h' (lawLed L o1 o2 o3' o4 o5 o6 ps ++ (l.objs w 1 tl [] 0 0 tp na ++ fx)) → l.Ok prog w (wordsF x0 x1 (bareAt c2)) → (∀ a ∈ lexKeys l, LawOff L a) → (∀ p ∈ fx, LexAp l p.1) → o3'.data = .cell (some (.ref l.xi)) →
      (AllBare s.gens → AllBare g) → wpAny (model prog w) (AM 1) (execs (lawBody.drop 7) (lawEnv L fa cd)) Q E { s with heap := h', toks := tk, gens := g }) :
    wpAny (model prog w) (AM 1) (execs (lawBody.drop 6) (lawEnv L fa cd)) Q E s := by
  revert prog w s p loose mean mg mb Q E h₀ L fa cd o1 o2 o3 o4 o5 o6 m fx ca sa sv cn sn x0 x1 c0 c1 c2 t0 t1 t2 X T C l0 d3 d6 hfx hm hca b2 hsa hsv k0 k1 F N ret
  show ∀ prog w s p loose mean mg mb Q E h₀ L fa cd o1 o2 o3 o4 o5 o6 m fx ca sa sv cn sn x0 x1 c0 c1 c2 t0 t1 t2 X T C l0 d3 d6 hfx hm hca b2 hsa hsv k0 k1 F N ret, _
  intro prog w s p loose mean mg mb Q E h₀ L fa cd o1 o2 o3 o4 o5 o6 m fx ca sa sv cn sn x0 x1 c0 c1 c2 t0 t1 t2
  intros X T C l0 d3 d6 hfx hm hca b2 hsa hsv k0 k1 F N ret
  have N1 := N
  dsimp only [lawBody, the, List.drop]
  dsimp only [lawLed, List.cons_append, List.nil_append] at N1
  refine wpAny_execs_cons ?_
  try dsimp only
  k_steps
  refine hold_in ?_
  k_dflt (refine lc_eval (by with_unfolding_all rfl) rfl (by decide) ?_)
  k_steps
  refine hold_in (comp_list (σ := Unit) (items := sv.toArray) (fun _ => (ca, W.listOf #[.int c0 t0, .int c1 t1, .int c2 t2] cn) :: (lawLed L o1 o2 o3 o4 o5 o6 #[] ++ fx)) (fun i _ ys => StrsAre ys (([x0, x1].map fun x => wordF x (bareAt c2)).take i)) () rfl (lst_here N (List.mem_append_right _ hsa)) (.inr ⟨_, fun _ => .tail _ (List.mem_append_right _ hsa)⟩) (by rw [sizeLine_eq, List.size_toArray, StrsAre.length hsv]; exact Nat.le_of_ble_eq_true rfl) (by decide) rfl rfl F (news_cons N (List.mem_append_right _ hca)) .nil ?_)
  intro g
  refine CompOf.none ?_ ?_
  · clear F N N1
    intro c i v ys m₂ h tk g D C oI oL hi hv hP hg off hm F' N'
    obtain ⟨x, t, hr1, hx⟩ := strs_at hsv (by simpa using hv)
    revert x t hr1 hx
    intro x t hr1 hx
    obtain rfl := hr1
    have kx : txOk x = true := by
      rcases List.mem_cons.mp (List.mem_of_getElem? hx) with rfl | hx
      · exact k0
      · rw [List.mem_singleton.mp hx]; exact k1
    obtain ⟨kx1, kx2, kx3⟩ := txOk_list kx
    revert kx1 kx2 kx3
    intro kx1 kx2 kx3
    dsimp only [lawLed, List.cons_append, List.nil_append] at N'
    refine wpAny_tests_nil ?_
    rw [if_pos rfl]
    k_steps
    (rename Fr _ _ _ _ => lF'); (rename News _ _ _ _ => lN')
    refine hold_in ?_
    refine am_weak (n := 5) (word_spec (bare := bareAt c2) (Nat.le_trans kx2 (by decide)) ?_ ?_ (bare_range c2) (X.keeps lF'.keep) (T.keeps lF'.keep) ?_) rfl (by decide) (by decide)
    · rw [← Array.all_toList, List.all_eq_true]
      exact fun c hc => decide_eq_true (kx1 c hc).2.2.2
    · intro i c hc
      exact (kx1 c (List.mem_of_getElem? (by simpa using hc))).1
    intro h2 tk2 g2 t2 kp hg2
    exact q_keep () (fr_kp lF' kp) (news_kp lN' kp) (fun b => hg2 (hg b)) off (strs_step (f := fun x => wordF x (bareAt c2)) hP hx)
  · clear F N N1
    intro c ys D h tk g hys hyl hg off F' N'
    have hys2 : StrsAre ys [wordF x0 (bareAt c2), wordF x1 (bareAt c2)] := by
      rw [List.take_of_length_le (by rw [List.length_map, List.size_toArray, StrsAre.length hsv]; exact Nat.le_refl _)] at hys
      exact hys
    have lw0 := wordF_len (b := bareAt c2) (txOk_list k0).2.1
    have lw1 := wordF_len (b := bareAt c2) (txOk_list k1).2.1
    (try dsimp only)
    k_steps
    refine hold_in ?_
    have hjl : (([wordF x0 (bareAt c2), wordF x1 (bareAt c2)]).map (·.length)).sum + ([wordF x0 (bareAt c2), wordF x1 (bareAt c2)]).length * (Str.ofString "\n").length ≤ 200 := by
      have e0 : (Str.ofString "\n").length = 1 := rfl
      simp only [List.map_cons, List.map_nil, List.sum_cons, List.sum_nil, List.length_cons, List.length_nil, e0]
      omega
    k_dflt (refine' join_strs ?N ?m ?w ?x hjl ?k ?_; (case N => exact N'); (case m => exact .head _); (case w => exact hys2); (case x => exact Nat.le_of_ble_eq_true rfl); (case k => exact Nat.le_of_ble_eq_true rfl))
    intro tj tkj
    have hxl := wordsF_len (b := bareAt c2) (txOk_list k0).2.1 (txOk_list k1).2.1
    have hx0 : Txt.join (Str.ofString "\n") [wordF x0 (bareAt c2), wordF x1 (bareAt c2)] = wordsF x0 x1 (bareAt c2) := rfl
    rw [hx0]
    generalize wordsF x0 x1 (bareAt c2) = xx at *
    have N2 : News h₀ L h (lawLed L o1 o2 o3 o4 o5 o6 #[] ++ fx) := fun p hp => N' p (.tail _ (.tail _ hp))
    clear N' off lw0 lw1 hjl hys2 hyl hsv hx0
    k_steps
    refine hold_in ?_
    have h86 : (86, tabObj #[]) ∈ lawLed L o1 o2 o3 o4 o5 o6 #[] ++ fx := List.mem_append_left fx (.tail _ (.tail _ (.tail _ (.tail _ (.tail _ (.tail _ (.head _)))))))
    have kh : ∀ b o, h₀.get? b = some o → (hid ⟨h, g, s.drawn, tkj, s.os⟩ [(86, tabObj #[])]).get? b = some o := hid_keep (s := ⟨h, g, s.drawn, tkj, s.os⟩) (mu := [(86, tabObj #[])]) F' N2 (List.forall_mem_cons.mpr ⟨h86, List.forall_mem_nil _⟩)
    refine am_weak (n := 5) (lexer_spec (Nat.le_trans hxl (by decide)) (N2 _ h86).1 (C.keeps kh) (X.keeps kh) (T.keeps kh) ?_) rfl (by decide) (by decide)
    intro h3 tk3 l tl tp na kp hok ho
    intros hgr
    obtain ⟨ps, hps⟩ := hgr
    revert ps hps
    intro ps hps
    have n86 : ∀ a b : Nat, a ≠ b → a ∉ [b] := fun a b h q => h (List.mem_singleton.mp q)
    have kk : ∀ b o, b ≠ 86 → h.get? b = some o → h3.get? b = some o := fun b o hb e => kp b o (hideAll_get _ e (fun q => hb (List.mem_singleton.mp q)))
    have hL86 : L ≠ 86 := Nat.ne_of_gt l0
    have F3 : Fr h₀ L h3 m := ⟨F'.ns.at' fun o e => kk _ o hL86 e, fun b o e => kp b o (kh b o e), F'.above⟩
    have big : ∀ a ∈ lexKeys l, h.get? a = none := fun a ha => by
      rw [← lex_keys (w := w) (line := 1) (tl := tl) (vs := []) (np := 0) (pos := 0) (tp := tp) (na := na)] at ha
      obtain ⟨q, hq, hr2⟩ := List.mem_map.mp ha
      revert q hq hr2
      intro q hq hr2
      obtain rfl := hr2
      exact Heap.get?_none_of_le (Nat.le_of_lt (ho q hq).2)
    have N3 : News h₀ L h3 (lawLed L o1 o2 o3 o4 o5 o6 ps ++ (l.objs w 1 tl [] 0 0 tp na ++ fx)) := fun p hp => by
      rcases List.mem_append.mp hp with hp | hp
      · by_cases h8 : p.1 = 86
        · have : p = (86, tabObj ps) := by
            have a1 : ∀ k : Nat, L + k ≠ 86 := fun k e => Nat.lt_irrefl _ (Nat.lt_of_lt_of_le l0 (Nat.le_trans (Nat.le_add_right L k) (Nat.le_of_eq e)))
            rcases List.mem_cons.mp hp with rfl | hp
            · exact absurd h8 (a1 6)
            rcases List.mem_cons.mp hp with rfl | hp
            · exact absurd h8 (a1 5)
            rcases List.mem_cons.mp hp with rfl | hp
            · exact absurd h8 (a1 4)
            rcases List.mem_cons.mp hp with rfl | hp
            · exact absurd h8 (a1 3)
            rcases List.mem_cons.mp hp with rfl | hp
            · exact absurd h8 (a1 2)
            rcases List.mem_cons.mp hp with rfl | hp
            · exact absurd h8 (a1 1)
            exact List.mem_singleton.mp hp
          rw [this]
          exact ⟨hps, (N2 _ h86).2⟩
        · have hp2 : p ∈ lawLed L o1 o2 o3 o4 o5 o6 #[] := by
            rcases List.mem_cons.mp hp with rfl | hp
            · exact .head _
            rcases List.mem_cons.mp hp with rfl | hp
            · exact .tail _ (.head _)
            rcases List.mem_cons.mp hp with rfl | hp
            · exact .tail _ (.tail _ (.head _))
            rcases List.mem_cons.mp hp with rfl | hp
            · exact .tail _ (.tail _ (.tail _ (.head _)))
            rcases List.mem_cons.mp hp with rfl | hp
            · exact .tail _ (.tail _ (.tail _ (.tail _ (.head _))))
            rcases List.mem_cons.mp hp with rfl | hp
            · exact .tail _ (.tail _ (.tail _ (.tail _ (.tail _ (.head _)))))
            exact absurd (by rw [List.mem_singleton.mp hp]) h8
          have z := N2 p (List.mem_append_left _ hp2)
          exact ⟨kk _ _ h8 z.1, z.2⟩
      · rcases List.mem_append.mp hp with hp | hp
        · exact ⟨(ho p hp).1, new_in F' (big p.1 (lex_key hp))⟩
        · have z := N2 p (List.mem_append_right _ hp)
          exact ⟨kk _ _ (Ne.symm (hfx p hp).2.2.2.2.2.2) z.1, z.2⟩
    have hlo : ∀ a ∈ lexKeys l, LawOff L a := fun a ha => off_law fun q hq => new_ne N2 (big a ha) q (List.mem_append_left _ hq)
    have hlf : ∀ p ∈ fx, LexAp l p.1 := fun p hp q => by
      have z := (N2 p (List.mem_append_right _ hp)).1
      rw [big _ q] at z; cases z
    clear N2 F' kp ho kk kh big
    k_steps
    refine hold_in ?_
    refine st_cell (own := [(L + 1 + 1 + 1 + 1 + 1 + 1, o1), (L + 1 + 1 + 1 + 1 + 1, o2)]) (rest := [(L + 1 + 1 + 1, o4), (L + 1 + 1, o5), (L + 1, o6), (86, tabObj ps)]) F3 N3 (fun p hp => ?_) rfl d3 ?_ ?_ rfl ?_
    · rcases List.mem_append.mp hp with hp | hp
      · exact Ne.symm (hlo p.1 (lex_key hp)).2.2.1
      · exact Ne.symm (hfx p hp).2.2.1
    · refine List.forall_mem_cons.mpr ⟨?_, List.forall_mem_cons.mpr ⟨?_, List.forall_mem_nil _⟩⟩ <;> (show @Ne Nat _ _; omega)
    · refine List.forall_mem_cons.mpr ⟨?_, List.forall_mem_cons.mpr ⟨?_, List.forall_mem_cons.mpr ⟨?_, List.forall_mem_cons.mpr ⟨?_, List.forall_mem_nil _⟩⟩⟩⟩ <;> (show @Ne Nat _ _; omega)
    intro h4 o3' F4 N4 d3'
    k_steps
    refine hold_in ?_
    exact ret _ _ _ _ _ _ _ _ _ F4 N4 hok hlo hlf d3' hg
end Mine
end

section
theorem Mine.top_off_LI : True := by
  w_top off
  trivial
local macro_rules | `(tactic| omega) => `(tactic| first | lia | omega (config := {}))
open PySem PySem.W PyProof.Rows PySem.Spec PySem.Calls
namespace Mine
open PyProof.Rows.LCg (lst lst_snoc NsObj ns_obj fr_but news_but)
theorem k_filledLI : (hd.heap_39 = hd.heap_39) ∧ (PySem.Challenge.rw_re0068_01 = PySem.Challenge.rw_re0068_01) := by
  k_fill
  exact ⟨rfl, rfl⟩
theorem law_ap {L : Addr} {l : LexA} {o1 o2 o3 o4 o5 o6 : Obj} {ps : Array Value} (h : ∀ a ∈ lexKeys l, LawOff L a) : ∀ p ∈ lawLed L o1 o2 o3 o4 o5 o6 ps, LexAp l p.1 := by
  refine List.forall_mem_cons.mpr ⟨fun q => (h _ q).1 rfl, List.forall_mem_cons.mpr ⟨fun q => (h _ q).2.1 rfl, List.forall_mem_cons.mpr ⟨fun q => (h _ q).2.2.1 rfl, List.forall_mem_cons.mpr ⟨fun q => (h _ q).2.2.2.1 rfl, List.forall_mem_cons.mpr ⟨fun q => (h _ q).2.2.2.2.1 rfl, List.forall_mem_cons.mpr ⟨fun q => (h _ q).2.2.2.2.2.1 rfl, List.forall_mem_cons.mpr ⟨fun q => (h _ q).2.2.2.2.2.2 rfl, List.forall_mem_nil _⟩⟩⟩⟩⟩⟩⟩
section
variable {h₀ h h' : Heap} {L : Addr} {m : Str → Option Value} {l : LexA} {A fx : List (Addr × Obj)} {w : World} {line line' : Int} {tl tl' : Tok} {vs vs' : List Value} {np np' : Nat} {pos pos' : Int} {tp tp' : Tok} {na na' : Nat}
theorem lex_under (F : Fr h₀ L h m) (N : News h₀ L h (A ++ (l.objs w line tl vs np pos tp na ++ fx))) : ∀ b o, h₀.get? b = some o → (hideAll h (lexKeys l)).get? b = some o := fun b o e =>
  hideAll_get _ (F.keep b o e) fun q => by
    rw [← lex_keys (w := w) (line := line) (tl := tl) (vs := vs) (np := np) (pos := pos) (tp := tp) (na := na)] at q
    obtain ⟨p, hp, rfl⟩ := List.mem_map.mp q
    rw [(N p (List.mem_append_right _ (List.mem_append_left _ hp))).2.2] at e; cases e
theorem lex_here (N : News h₀ L h (A ++ (l.objs w line tl vs np pos tp na ++ fx))) : ∀ p ∈ l.objs w line tl vs np pos tp na, h.get? p.1 = some p.2 := fun p hp => (N p (List.mem_append_right _ (List.mem_append_left _ hp))).1
theorem lex_move (F : Fr h₀ L h m) (N : News h₀ L h (A ++ (l.objs w line tl vs np pos tp na ++ fx))) (hA : ∀ p ∈ A, LexAp l p.1) (hf : ∀ p ∈ fx, LexAp l p.1) (kp : Keeps (hideAll h (lexKeys l)) h')
    (ob : ∀ p ∈ l.objs w line' tl' vs' np' pos' tp' na', h'.get? p.1 = some p.2) : Fr h₀ L h' m ∧ News h₀ L h' (A ++ (l.objs w line' tl' vs' np' pos' tp' na' ++ fx)) := by
  have old : ∀ {q}, q ∈ lexKeys l → ∃ p ∈ l.objs w line tl vs np pos tp na, p.1 = q := fun {q} hq => by
    rw [← lex_keys (w := w) (line := line) (tl := tl) (vs := vs) (np := np) (pos := pos) (tp := tp) (na := na)] at hq
    obtain ⟨p, hp, e⟩ := List.mem_map.mp hq
    exact ⟨p, hp, e⟩
  have kk : ∀ b o, b ∉ lexKeys l → h.get? b = some o → h'.get? b = some o := fun b o hb e => kp b o (hideAll_get _ e hb)
  refine ⟨⟨F.ns.at' fun o e => kk _ o (fun q => ?_) e, fun b o e => kp b o (lex_under F N b o e), F.above⟩, fun p hp => ?_⟩
  · obtain ⟨p, hp, e2⟩ := old q
    exact (N p (List.mem_append_right _ (List.mem_append_left _ hp))).2.1 e2
  · rcases List.mem_append.mp hp with hp | hp
    · have z := N p (List.mem_append_left _ hp)
      exact ⟨kk _ _ (hA p hp) z.1, z.2⟩
    · rcases List.mem_append.mp hp with hp | hp
      · obtain ⟨q, hq, e2⟩ := old (lex_key hp)
        exact ⟨ob p hp, e2 ▸ (N q (List.mem_append_right _ (List.mem_append_left _ hq))).2⟩
      · have z := N p (List.mem_append_right _ (List.mem_append_right _ hp))
        exact ⟨kk _ _ (hf p hp) z.1, z.2⟩
theorem lex_two (N : News h₀ L h (A ++ (l.objs w line tl vs np pos tp na ++ fx))) : News h₀ L h ((l.xi, instObj 80 l.dx) :: (l.dx, lexDict w l line tl) :: (A ++ (l.objs w line tl vs np pos tp na ++ fx))) :=
  news_cons (news_cons N (List.mem_append_right _ (List.mem_append_left _ (.tail _ (.head _))))) (.tail _ (List.mem_append_right _ (List.mem_append_left _ (.head _))))
theorem lex_back {q a b : Addr × Obj} (N : News h₀ L h (q :: a :: b :: (A ++ (l.objs w line tl vs np pos tp na ++ fx)))) : News h₀ L h (A ++ (l.objs w line tl vs np pos tp na ++ (q :: fx))) := fun p hp => by
  rcases List.mem_append.mp hp with hp | hp
  · exact N p (.tail _ (.tail _ (.tail _ (List.mem_append_left _ hp))))
  · rcases List.mem_append.mp hp with hp | hp
    · exact N p (.tail _ (.tail _ (.tail _ (List.mem_append_right _ (List.mem_append_left _ hp)))))
    · rcases List.mem_cons.mp hp with rfl | hp
      · exact N _ (.head _)
      · exact N p (.tail _ (.tail _ (.tail _ (List.mem_append_right _ (List.mem_append_right _ hp)))))
end
theorem allLt_mem {d : Nat} {p : Addr × Obj} : ∀ {l : List (Addr × Obj)}, AllLt d l → p ∈ l → @LT.lt Nat _ p.1 d
  | q :: r, h, hp => by
    rcases List.mem_cons.mp hp with rfl | hp
    · exact h.1
    · exact allLt_mem h.2 hp
theorem lex_lt {a : Addr} {w : World} {l : LexA} {line : Int} {tl : Tok} {vs : List Value} {np : Nat} {pos : Int} {tp : Tok} {na : Nat} {fx : List (Addr × Obj)} (h : AllLt a (l.objs w line tl vs np pos tp na ++ fx)) : LexAp l a := fun q => by
  rw [← lex_keys (w := w) (line := line) (tl := tl) (vs := vs) (np := np) (pos := pos) (tp := tp) (na := na)] at q
  obtain ⟨p, hp, e⟩ := List.mem_map.mp q
  have z := allLt_mem h (List.mem_append_left _ hp)
  rw [e] at z
  exact Nat.lt_irrefl _ z
theorem rest_zero (x : Str) : restAt x 0 = x.cps.toList := rfl
theorem line_zero (x : Str) : lineAt x 0 = 1 := rfl
theorem str_back (x : Str) : (⟨x.cps.toList.toArray⟩ : Str) = x := by
  cases x; simp
local macro_rules | `(tactic| walk_at $k:str) => if ["execs cons", "And", "call ref"].contains k.getString then `(tactic| (refine hold_of ?_)) else Lean.Macro.throwUnsupported
theorem st8 {prog : Program} {w : World} {s : Shared} {p : Program} {loose : List Str} {mean : ExcName → Option Value} {mg mb : Str → Option Value} {Q : Flow → Shared → Prop} {E : Value → Shared → Prop}
    {h₀ : Heap} {L fa : Addr} {cd : Value} {o1 o2 o3 o4 o5 o6 : Obj} {ps : Array Value} {m : Str → Option Value} {fx : List (Addr × Obj)} {x0 x1 : Str} {b : Int} {l : LexA} {tl tp : Tok} {na : Nat}
    (X : (hd.heap_39 w.params).In h₀) (T : Top p loose mean mg mb h₀)
    (l0 : @LT.lt Nat _ 86 L) (d3 : o3.data = .cell (some (.ref l.xi))) (hfx : FxOff L fx)
    (hok : l.Ok prog w (wordsF x0 x1 b)) (hlo : ∀ a ∈ lexKeys l, LawOff L a) (hlf : ∀ p ∈ fx, LexAp l p.1) (k0 : txOk x0 = true) (k1 : txOk x1 = true)
    (F : Fr h₀ L s.heap m) (N : News h₀ L s.heap (lawLed L o1 o2 o3 o4 o5 o6 ps ++ (l.objs w 1 tl [] 0 0 tp na ++ fx)))
    (ret : ∀ h' tk ha ta tb hn tl' tp' na', Fr h₀ L h' (fun z => if z = Str.ofString "heard" then some (.ref ha) else m z) → News h₀ L h' (lawLed L o1 o2 o3 o4 o5 o6 ps ++ (l.objs w 2 tl' [] 0 (((wordsF x0 x1 b).length : Nat) : Int) tp' na' ++ ((ha, W.listOf #[.str x0 ta, .str x1 tb] hn) :: fx))) →
      LawOff L ha → LexAp l ha → wpAny (model prog w) (AM 1) (execs (lawBody.drop 8) (lawEnv L fa cd)) Q E { s with heap := h', toks := tk }) :
    wpAny (model prog w) (AM 1) (execs (lawBody.drop 7) (lawEnv L fa cd)) Q E s := by
  revert prog w s p loose mean mg mb Q E h₀ L fa cd o1 o2 o3 o4 o5 o6 ps m fx x0 x1 b l tl tp na X T l0 d3 hfx hok hlo hlf k0 k1 F N ret
  show ∀ prog w s p loose mean mg mb Q E h₀ L fa cd o1 o2 o3 o4 o5 o6 ps m fx x0 x1 b l tl tp na X T l0 d3 hfx hok hlo hlf k0 k1 F N ret, _
  intro prog w s p loose mean mg mb Q E h₀ L fa cd o1 o2 o3 o4 o5 o6 ps m fx x0 x1 b l tl tp na
  intros X T l0 d3 hfx hok hlo hlf k0 k1 F N ret
  have hl2 := words_line (b := b) k0 k1
  have hxl := wordsF_len (b := b) (txOk_list k0).2.1 (txOk_list k1).2.1
  obtain ⟨r, hgo1, hgo2⟩ := words_read (b := b) k0 k1
  revert r hgo1 hgo2
  intro r hgo1 hgo2
  have hA := law_ap (o1 := o1) (o2 := o2) (o3 := o3) (o4 := o4) (o5 := o5) (o6 := o6) (ps := ps) hlo
  generalize hx : wordsF x0 x1 b = x at *
  have N1 := lex_two N
  dsimp only [lawBody, the, List.drop]
  dsimp only [lawLed, List.cons_append, List.nil_append] at N1
  refine wpAny_execs_cons ?_
  try dsimp only
  k_steps
  refine hold_in ?_
  (try dsimp only [List.append_nil])
  refine am_weak (n := 5) (token_spec (x := x) (line := 1) (pos := 0) (np := 0) (tl := tl) (tp := tp) (na := na) hok (lex_here N) (X.keeps (lex_under F N)) (T.keeps (lex_under F N)) (Nat.le_trans hxl (by decide)) (Nat.zero_le _) (line_zero x).symm ?_) rfl (by decide) (by decide)
  intro h2 tk2 tl2 tp2 na2 pos2 y2 ty2 kp2 ob2 hp2 hg2
  obtain ⟨F2, N2⟩ := lex_move F N hA hlf kp2 ob2
  revert F2 N2
  intro F2 N2
  rw [rest_zero, hgo1] at hg2
  injection hg2 with e1 e2
  subst e1
  subst e2
  rw [str_back]
  clear F N N1 kp2 ob2
  have N1 := lex_two N2
  dsimp only [lawLed, List.cons_append, List.nil_append] at N1
  k_steps
  refine hold_in ?_
  (try dsimp only [List.append_nil])
  refine am_weak (n := 5) (token_spec (x := x) (line := lineAt x pos2) (pos := pos2) (np := 0) (tl := tl2) (tp := tp2) (na := na2) hok (lex_here N2) (X.keeps (lex_under F2 N2)) (T.keeps (lex_under F2 N2)) (Nat.le_trans hxl (by decide)) hp2 rfl ?_) rfl (by decide) (by decide)
  intro h3 tk3 tl3 tp3 na3 pos3 y3 ty3 kp3 ob3 hp3 hg3
  obtain ⟨F3, N3⟩ := lex_move F2 N2 hA hlf kp3 ob3
  revert F3 N3
  intro F3 N3
  rw [hgo2] at hg3
  injection hg3 with e1 e2
  subst e1
  have e3 := rest_nil e2.symm hp3
  subst e3
  rw [str_back]
  rw [hl2] at N3
  clear F2 N2 N1 kp3 ob3 hgo1 hgo2 e2
  have N1 := lex_two N3
  clear N3
  dsimp only [lawLed, List.cons_append, List.nil_append] at N1
  k_steps
  rename_i ha h4 l1 h5 F5 N5
  refine hold_in ?_
  refine ret h5 _ ha ty2 ty3 0 tl3 tp3 na3 F5 (lex_back (A := lawLed L o1 o2 o3 o4 o5 o6 ps) N5) (by refine ⟨?_, ?_, ?_, ?_, ?_, ?_, ?_⟩ <;> omega) ?_
  · exact lex_lt l1.2.2.2.2.2.2.2.2.2
end Mine
end

section
theorem Mine.top_off_LJ : True := by
  w_top off
  trivial
local macro_rules | `(tactic| omega) => `(tactic| first | lia | omega (config := {}))
open PySem PySem.W PyProof.Rows PySem.Spec PySem.Calls
namespace Mine
open PyProof.Rows.LCg (lst lst_snoc NsObj ns_obj fr_but news_but)
theorem k_filledLJ : (hd.heap_39 = hd.heap_39) ∧ (PySem.Challenge.rw_re0068_01 = PySem.Challenge.rw_re0068_01) := by
  k_fill
  exact ⟨rfl, rfl⟩
theorem strs_two {sv : List Value} {x y : Str} (h : StrsAre sv [x, y]) : ∃ t u, sv = [.str x t, .str y u] := by
  cases h with
  | cons _ t h => cases h with
    | cons _ u h => cases h; exact ⟨t, u, rfl⟩
theorem carried_strs : ∀ {vs : List Value} {ws : List Str}, StrsAre vs ws → CarriedAll vs (ws.map PyData.str)
  | _, _, .nil => .nil
  | _, _, .cons _ t r => .cons (.str _ t) (carried_strs r)
noncomputable abbrev strsD (ws : List Str) : PyData := .list (ws.map PyData.str)
noncomputable def cpsOk (x : Str) : Bool := x.cps.all (· < 0x110000)
theorem cpsOk_of {x : Str} (h : txOk x = true) : cpsOk x = true := by
  unfold cpsOk
  rw [← Array.all_toList, List.all_eq_true]
  intros c hc
  exact decide_eq_true (Nat.lt_trans ((txOk_list h).1 c hc).2.2.2 (by decide))
theorem lay_strs {ws : List Str} (h : ∀ x ∈ ws, cpsOk x = true) : PyData.canLay0 (strsD ws) = true ∧ PyData.depth (strsD ws) = 1 := by
  have z : PyData.canLayAll0 (ws.map PyData.str) = true ∧ PyData.depthAll (ws.map PyData.str) = 0 := by
    induction ws with
    | nil => exact ⟨rfl, rfl⟩
    | cons x r ih =>
      obtain ⟨i1, i2⟩ := ih fun y hy => h y (.tail _ hy)
      refine ⟨?_, ?_⟩
      · show (PyData.canLay0 (.str x) && PyData.canLayAll0 (r.map PyData.str)) = true
        rw [i1, Bool.and_true]
        exact h x (.head _)
      · show max (PyData.depth (.str x)) (PyData.depthAll (r.map PyData.str)) = 0
        rw [i2]; rfl
  exact ⟨z.1, by show PyData.depthAll (ws.map PyData.str) + 1 = 1; rw [z.2]⟩
theorem shaped_strs {ws : List Str} (h : ∀ x ∈ ws, cpsOk x = true) : SeqAt.shaped (strsD ws) = true := by
  obtain ⟨h1, h2⟩ := lay_strs h
  unfold SeqAt.shaped
  rw [h1, h2]; rfl
section
variable {prog : Program} {w : World} {A : Around} {E : Value → Shared → Prop} {s : Shared} {a b : Addr} {vs us : List Value} {ws : List Str} {Q : Value → Shared → Prop}
theorem strs_ne (ha : s.heap.IsList a vs.toArray) (hb : s.heap.IsList b us.toArray) (hv : StrsAre vs ws) (hu : StrsAre us ws) (hx : ∀ x ∈ ws, cpsOk x = true) (hr : A.units + 64 < cLine) (h : Q (.bool false) s) : wpAny (model prog w) A (compareOp .NotEq (.ref a) (.ref b)) Q E s :=
  ne_dataH (reads_newData ha (carried_strs hv)) (reads_newData hb (carried_strs hu)) (shaped_strs hx) (shaped_strs hx) hr (by rw [SeqAt.eqv_refl _ (lay_strs hx).1]; exact h)
theorem strs_same (ha : s.heap.IsList a vs.toArray) (hb : s.heap.IsList b us.toArray) (hv : StrsAre vs ws) (hu : StrsAre us ws) (hx : ∀ x ∈ ws, cpsOk x = true) (hr : A.units + 64 < cLine) (h : Q (.bool true) s) : wpAny (model prog w) A (compareOp .Eq (.ref a) (.ref b)) Q E s :=
  eq_dataH (reads_newData ha (carried_strs hv)) (reads_newData hb (carried_strs hu)) (shaped_strs hx) (shaped_strs hx) hr (by rw [SeqAt.eqv_refl _ (lay_strs hx).1]; exact h)
end
local macro_rules | `(tactic| walk_at $k:str) => if ["compareOp NotEq ref ref", "execs cons"].contains k.getString then `(tactic| (refine hold_of ?_)) else Lean.Macro.throwUnsupported
local macro_rules | `(tactic| walk_at "eval Name") => `(tactic| (k_here; (with_reducible show wpAny _ _ (eval (Expr.Name _ _) (envOfC _ _ _ _ _)) _ _ _); k_dflt (refine' nameX_L ?F ?v ?_ ?a ?b; (case F => k_asm); (case a => rfl); (case b => rfl); (case v => assumption))))
theorem st9 {prog : Program} {w : World} {s : Shared} {p : Program} {loose : List Str} {mean : ExcName → Option Value} {mg mb : Str → Option Value} {Q : Flow → Shared → Prop} {E : Value → Shared → Prop}
    {h₀ : Heap} {L fa : Addr} {cd : Value} {m : Str → Option Value} {fx : List (Addr × Obj)} {x0 x1 : Str} {ha sa : Addr} {ta tb : Tok} {hn sn : Nat} {sv : List Value}
    (X : (hd.heap_39 w.params).In h₀) (T : Top p loose mean mg mb h₀) (k0 : txOk x0 = true) (k1 : txOk x1 = true)
    (hha : (ha, W.listOf #[.str x0 ta, .str x1 tb] hn) ∈ fx) (hsa : (sa, W.listOf sv.toArray sn) ∈ fx) (hsv : StrsAre sv [x0, x1]) (hm1 : m (Str.ofString "heard") = some (.ref ha)) (hm2 : m (Str.ofString "starts") = some (.ref sa))
    (F : Fr h₀ L s.heap m) (N : News h₀ L s.heap fx)
    (ret : ∀ h' tk, Fr h₀ L h' m → News h₀ L h' fx → wpAny (model prog w) (AM 1) (execs (lawBody.drop 9) (lawEnv L fa cd)) Q E { s with heap := h', toks := tk }) :
    wpAny (model prog w) (AM 1) (execs (lawBody.drop 8) (lawEnv L fa cd)) Q E s := by
  revert prog w s p loose mean mg mb Q E h₀ L fa cd m fx x0 x1 ha sa ta tb hn sn sv X T k0 k1 hha hsa hsv hm1 hm2 F N ret
  show ∀ prog w s p loose mean mg mb Q E h₀ L fa cd m fx x0 x1 ha sa ta tb hn sn sv X T k0 k1 hha hsa hsv hm1 hm2 F N ret, _
  intro prog w s p loose mean mg mb Q E h₀ L fa cd m fx x0 x1 ha sa ta tb hn sn sv
  intros X T k0 k1 hha hsa hsv hm1 hm2 F N ret
  obtain ⟨t3, t4, hr1⟩ := strs_two hsv
  revert t3 t4 hr1
  intro t3 t4 hr1
  obtain rfl := hr1
  have N1 := news_cons (news_cons N hsa) (.tail _ hha)
  have q0 := (txOk_list k0).2.1
  have q1 := (txOk_list k1).2.1
  clear N
  dsimp only [lawBody, the, List.drop]
  refine wpAny_execs_cons ?_
  try dsimp only
  k_steps
  refine hold_in ?_
  refine strs_ne (lst_here N1 (vs := [.str x0 ta, .str x1 tb]) (.head _)) (lst_here N1 (.tail _ (.head _))) (.cons _ _ (.cons _ _ .nil)) hsv (List.forall_mem_cons.mpr ⟨cpsOk_of k0, List.forall_mem_cons.mpr ⟨cpsOk_of k1, List.forall_mem_nil _⟩⟩) (by decide) ?_
  k_steps
  refine hold_in ?_
  exact ret _ _ F fun p hp => N1 p (.tail _ (.tail _ hp))
end Mine
end

section
theorem Mine.top_off_LK : True := by
  w_top off
  trivial
local macro_rules | `(tactic| omega) => `(tactic| first | lia | omega (config := {}))
open PySem PySem.W PyProof.Rows PySem.Spec PySem.Calls
namespace Mine
open PyProof.Rows.LCg (lst lst_snoc NsObj ns_obj fr_but news_but)
theorem k_filledLK : (hd.heap_39 = hd.heap_39) ∧ (PySem.Challenge.rw_re0068_01 = PySem.Challenge.rw_re0068_01) := by
  k_fill
  exact ⟨rfl, rfl⟩
inductive TextsIn (objs : List (Addr × Obj)) : List Value → List (List Str) → Prop
  | nil : TextsIn objs [] []
  | cons {a : Addr} {us : List Value} {nn : Nat} {e : List Str} {vs : List Value} {es : List (List Str)} : (a, W.listOf us.toArray nn) ∈ objs → StrsAre us e → TextsIn objs vs es → TextsIn objs (.ref a :: vs) (e :: es)
theorem TextsIn.mono {objs objs' : List (Addr × Obj)} {vs : List Value} {es : List (List Str)} (h : TextsIn objs vs es) (hs : ∀ p ∈ objs, p ∈ objs') : TextsIn objs' vs es := by
  induction h with
  | nil => exact .nil
  | cons h1 h2 _ ih => exact .cons (hs _ h1) h2 ih
theorem TextsIn.snoc {objs : List (Addr × Obj)} {vs : List Value} {es : List (List Str)} {a : Addr} {us : List Value} {nn : Nat} {e : List Str} (h : TextsIn objs vs es) (hm : (a, W.listOf us.toArray nn) ∈ objs) (hi : StrsAre us e) : TextsIn objs (vs ++ [.ref a]) (es ++ [e]) := by
  induction h with
  | nil => exact .cons hm hi .nil
  | cons h1 h2 _ ih => exact .cons h1 h2 ih
theorem TextsIn.length {objs : List (Addr × Obj)} {vs : List Value} {es : List (List Str)} (h : TextsIn objs vs es) : vs.length = es.length := by
  induction h with
  | nil => rfl
  | cons _ _ _ ih => simp [ih]
theorem TextsIn.get {objs : List (Addr × Obj)} {vs : List Value} {es : List (List Str)} (h : TextsIn objs vs es) : ∀ {i : Nat} {v : Value}, vs[i]? = some v → ∃ a us nn e, v = .ref a ∧ (a, W.listOf us.toArray nn) ∈ objs ∧ StrsAre us e ∧ es[i]? = some e := by
  induction h with
  | nil => intros i v e; simp at e
  | cons h1 h2 _ ih =>
    intros i v e
    cases i with
    | zero => simp at e; exact ⟨_, _, _, _, e.symm, h1, h2, rfl⟩
    | succ i => simp at e; obtain ⟨a, us, nn, e', q1, q2, q3, q4⟩ := ih e; exact ⟨a, us, nn, e', q1, q2, q3, by simpa using q4⟩
theorem texts_step {α : Type} {objs : List (Addr × Obj)} {l : List α} {f : α → List Str} {i : Nat} {a : α} {ys : List Value} {r : Addr} {us : List Value} {nn : Nat} (h : TextsIn objs ys ((l.map f).take i)) (ha : l[i]? = some a) (hm : (r, W.listOf us.toArray nn) ∈ objs) (hu : StrsAre us (f a)) : TextsIn objs (ys ++ [.ref r]) ((l.map f).take (i + 1)) := by
  rw [List.take_add_one, List.getElem?_map, ha]
  exact h.snoc hm hu
structure ReS where
  tl : Tok
  np : Nat
  tp : Tok
  na : Nat
  made : List (Addr × Obj)
local macro_rules | `(tactic| walk_at $k:str) => if ["execs cons", "call ref", "pyIter ref", "eval ListComp", "storeName"].contains k.getString then `(tactic| (refine hold_of ?_)) else Lean.Macro.throwUnsupported
local macro_rules | `(tactic| walk_at "eval Name") => `(tactic| (k_here; (with_reducible show wpAny _ _ (eval (Expr.Name _ _) (compEnvC _ _ _ _)) _ _ _); k_dflt (refine ldVarK (Fr.ns (by k_asm)) (by assumption) ?_)))
local macro_rules | `(tactic| walk_at "eval Name") => `(tactic| (k_here; (with_reducible show wpAny _ _ (eval (Expr.Name _ _) (envOfC _ _ _ _ _)) _ _ _); k_dflt (refine' nameX_L ?F ?v ?_ ?a ?b; (case F => k_asm); (case a => rfl); (case b => rfl); (case v => assumption))))
theorem st10 {prog : Program} {w : World} {s : Shared} {p : Program} {loose : List Str} {mean : ExcName → Option Value} {mg mb : Str → Option Value} {Q : Flow → Shared → Prop} {E : Value → Shared → Prop}
    {h₀ : Heap} {L fa : Addr} {cd : Value} {o1 o2 o3 o4 o5 o6 : Obj} {ps : Array Value} {m : Str → Option Value} {fx : List (Addr × Obj)} {x0 x1 x : Str} {ha : Addr} {ta tb : Tok} {hn : Nat} {l : LexA} {tl tp : Tok} {na n : Nat}
    (X : (hd.heap_39 w.params).In h₀) (T : Top p loose mean mg mb h₀) (hn8 : n ≤ 8) (hxl : x.length ≤ 90) (hl2 : lineAt x x.length = 2)
    (l0 : @LT.lt Nat _ 86 L) (d2 : o2.data = .cell none) (d3 : o3.data = .cell (some (.ref l.xi))) (hfx : FxOff L fx)
    (hok : l.Ok prog w x) (hlo : ∀ a ∈ lexKeys l, LawOff L a) (hlf : ∀ p ∈ fx, LexAp l p.1)
    (hha : (ha, W.listOf #[.str x0 ta, .str x1 tb] hn) ∈ fx) (hm1 : m (Str.ofString "heard") = some (.ref ha)) (f0 : floodOk n 20 [x0] [x0] = true) (f1 : floodOk n 20 [x1] [x1] = true)
    (F : Fr h₀ L s.heap m) (N : News h₀ L s.heap (lawLed L o1 o2 o3 o4 o5 o6 ps ++ (l.objs w 2 tl [] 0 ((x.length : Nat) : Int) tp na ++ fx)))
    (ret : ∀ h' tk g fx' ra rv rn o2' t5, Fr h₀ L h' m → News h₀ L h' (lawLed L o1 o2' o3 o4 o5 o6 ps ++ fx') → FxOff L fx' → (∀ p ∈ fx, p ∈ fx') → o2'.data = .cell (some (.ref ra)) → (ra, W.listOf rv.toArray rn) ∈ fx' → TextsIn fx' rv [floodF n 20 [x0] [x0], floodF n 20 [x1] [x1]] →
      (l.xi, instObj 80 l.dx) ∈ fx' → (l.dx, lexDict w l 2 t5) ∈ fx' →
      (AllBare s.gens → AllBare g) → wpAny (model prog w) (AM 1) (execs (lawBody.drop 10) (lawEnv L fa cd)) Q E { s with heap := h', toks := tk, gens := g }) :
    wpAny (model prog w) (AM 1) (execs (lawBody.drop 9) (lawEnv L fa cd)) Q E s := by
  revert prog w s p loose mean mg mb Q E h₀ L fa cd o1 o2 o3 o4 o5 o6 ps m fx x0 x1 x ha ta tb hn l tl tp na n X T hn8 hxl hl2 l0 d2 d3 hfx hok hlo hlf hha hm1 f0 f1 F N ret
  show ∀ prog w s p loose mean mg mb Q E h₀ L fa cd o1 o2 o3 o4 o5 o6 ps m fx x0 x1 x ha ta tb hn l tl tp na n X T hn8 hxl hl2 l0 d2 d3 hfx hok hlo hlf hha hm1 f0 f1 F N ret, _
  intro prog w s p loose mean mg mb Q E h₀ L fa cd o1 o2 o3 o4 o5 o6 ps m fx x0 x1 x ha ta tb hn l tl tp na n
  intros X T hn8 hxl hl2 l0 d2 d3 hfx hok hlo hlf hha hm1 f0 f1 F N ret
  have N1 := N
  have hA := law_ap (o1 := o1) (o2 := o2) (o3 := o3) (o4 := o4) (o5 := o5) (o6 := o6) (ps := ps) hlo
  have hsv : StrsAre [.str x0 ta, .str x1 tb] [x0, x1] := .cons _ _ (.cons _ _ .nil)
  dsimp only [lawBody, the, List.drop]
  dsimp only [lawLed, List.cons_append, List.nil_append] at N1
  refine wpAny_execs_cons ?_
  try dsimp only
  k_steps
  refine hold_in ?_
  k_dflt (refine lc_eval (by with_unfolding_all rfl) rfl (by decide) ?_)
  k_steps
  refine hold_in (comp_list (σ := ReS) (items := #[.str x0 ta, .str x1 tb]) (fun c => lawLed L o1 o2 o3 o4 o5 o6 ps ++ (l.objs w 2 c.tl [] c.np ((x.length : Nat) : Int) c.tp c.na ++ (c.made ++ fx)))
    (fun i c ys => TextsIn c.made ys (([x0, x1].map fun t => floodF n 20 [t] [t]).take i) ∧ ∀ p ∈ c.made, LexAp l p.1 ∧ LawOff L p.1) ⟨tl, 0, tp, na, []⟩ rfl (lst_here (vs := [.str x0 ta, .str x1 tb]) N (List.mem_append_right _ (List.mem_append_right _ hha)))
    (.inr ⟨_, fun c => List.mem_append_right _ (List.mem_append_right _ (List.mem_append_right _ hha))⟩) (Nat.le_of_ble_eq_true rfl) (by decide) rfl rfl F N ⟨.nil, List.forall_mem_nil _⟩ ?_)
  intro g
  refine CompOf.none ?_ ?_
  · clear F N N1
    intros c
    obtain ⟨tl1, np1, tp1, na1, made⟩ := c
    revert tl1 np1 tp1 na1 made
    intro tl1 np1 tp1 na1 made i v ys m₂ h tk g D C oI oL hi hv hP hg off hm F' N'
    obtain ⟨hP1, hP2⟩ := hP
    revert hP1 hP2
    intro hP1 hP2
    dsimp only at hP1 hP2 off N'
    obtain ⟨t, tt, hr1, ht⟩ := strs_at hsv (by simpa using hv)
    revert t tt hr1 ht
    intro t tt hr1 ht
    obtain rfl := hr1
    have hft : floodOk n 20 [t] [t] = true := by
      rcases List.mem_cons.mp (List.mem_of_getElem? ht) with rfl | hx
      · exact f0
      · rw [List.mem_singleton.mp hx]; exact f1
    rw [List.append_assoc, List.append_assoc] at N'
    dsimp only [lawLed, List.cons_append, List.nil_append] at N'
    refine wpAny_tests_nil ?_
    rw [if_pos rfl]
    k_steps
    (rename Fr _ _ _ _ => lF'); (rename News _ _ _ _ => lN')
    have N9 : News h₀ C h (lawLed L o1 o2 o3 o4 o5 o6 ps ++ (l.objs w 2 tl1 [] np1 ((x.length : Nat) : Int) tp1 na1 ++ ((made ++ fx) ++ _))) := lN'
    clear lN'
    refine hold_in ?_
    refine am_weak (n := 4) (flood_spec (x := x) (line := 2) (tl := tl1) (np := np1) (tp := tp1) (na := na1) (n := n) (K := 20) (Nat.le_refl _) hok hn8 hft (lex_here N9) (X.keeps (lex_under lF' N9)) (T.keeps (lex_under lF' N9)) hxl hl2.symm ?_) rfl (by decide) (by decide)
    intro h2 tk2 g2 tl2 np2 tp2 na2 r vs nn kp ob hg2 hr hrl hget hst
    have hkey : r ∉ lexKeys l := fun q => by
      have q2 : r ∈ [l.xi, l.dx, l.pb, l.fs, l.ds, l.al] ++ l.fix.map (·.1) := q
      rcases List.mem_append.mp q2 with q | q
      · obtain ⟨z1, z2, z3, z4, z5, z6⟩ := hrl.1
        revert z1 z2 z3 z4 z5 z6
        intro z1 z2 z3 z4 z5 z6
        rcases List.mem_cons.mp q with q | q
        · exact z1 q.symm
        rcases List.mem_cons.mp q with q | q
        · exact z2 q.symm
        rcases List.mem_cons.mp q with q | q
        · exact z3 q.symm
        rcases List.mem_cons.mp q with q | q
        · exact z4 q.symm
        rcases List.mem_cons.mp q with q | q
        · exact z5 q.symm
        exact z6 (List.mem_singleton.mp q).symm
      · obtain ⟨p, hp, e⟩ := List.mem_map.mp q
        revert p hp e
        intro p hp e
        exact hrl.2 p hp e
    have hr0 : h.get? r = none := by
      cases q : h.get? r with
      | none => rfl
      | some o => have := hideAll_get (lexKeys l) q hkey; rw [show (hideAll h (lexKeys l)).get? r = none from hr] at this; cases this
    have hrn := new_ne N9 hr0
    have hof : ∀ k ∈ lexKeys l, k ≠ D ∧ k ≠ s.heap.objs.size ∧ k ≠ L := fun k hk => by
      rw [← lex_keys (w := w) (line := 2) (tl := tl1) (vs := []) (np := np1) (pos := ((x.length : Nat) : Int)) (tp := tp1) (na := na1)] at hk
      obtain ⟨q, hq, hr2⟩ := List.mem_map.mp hk
      revert q hq hr2
      intro q hq hr2
      obtain rfl := hr2
      exact off q (List.mem_append_right _ (List.mem_append_left _ hq))
    obtain ⟨F2, N2⟩ := lex_move lF' N9 hA (fun p hp => by
      rcases List.mem_append.mp hp with hp | hp
      · rcases List.mem_append.mp hp with hp | hp
        · exact (hP2 p hp).1
        · exact hlf p hp
      · rcases List.mem_cons.mp hp with rfl | hp
        · exact fun q => (hof _ q).1 rfl
        rcases List.mem_cons.mp hp with rfl | hp
        · exact fun q => (hof _ q).2.1 rfl
        · rw [List.mem_singleton.mp hp]
          exact fun q => (hof _ q).2.2 rfl) kp ob
    revert F2 N2
    intro F2 N2
    have N3 : News h₀ C h2 ((r, W.listOf vs.toArray nn) :: (lawLed L o1 o2 o3 o4 o5 o6 ps ++ (l.objs w 2 tl2 [] np2 ((x.length : Nat) : Int) tp2 na2 ++ ((made ++ fx) ++ _)))) := fun p hp => by
      rcases List.mem_cons.mp hp with rfl | hp
      · exact ⟨hget, new_in lF' hr0⟩
      · exact N2 p hp
    refine q_end ⟨tl2, np2, tp2, na2, (r, W.listOf vs.toArray nn) :: made⟩ F2 N3 (fun b => hg2 (hg b)) (fun p hp => ?_) (fun p hp => ?_) (fun p hp => ?_) ⟨texts_step (f := fun t => floodF n 20 [t] [t]) (hP1.mono fun p hp => .tail _ hp) ht (.head _) hst, ?_⟩
    · exact .tail _ (List.mem_append_right _ (List.mem_append_right _ (List.mem_append_right _ hp)))
    · dsimp only at hp
      rcases List.mem_append.mp hp with hp | hp
      · exact .tail _ (List.mem_append_left _ hp)
      rcases List.mem_append.mp hp with hp | hp
      · exact .tail _ (List.mem_append_right _ (List.mem_append_left _ hp))
      rcases List.mem_cons.mp hp with rfl | hp
      · exact .head _
      · exact .tail _ (List.mem_append_right _ (List.mem_append_right _ (List.mem_append_left _ hp)))
    · dsimp only at hp
      rcases List.mem_append.mp hp with hp | hp
      · exact off p (List.mem_append_left _ hp)
      rcases List.mem_append.mp hp with hp | hp
      · exact hof p.1 (lex_key hp)
      rcases List.mem_cons.mp hp with rfl | hp
      · exact ⟨Ne.symm (hrn _ (List.mem_append_right _ (List.mem_append_right _ (List.mem_append_right _ (.head _))))), Ne.symm (hrn _ (List.mem_append_right _ (List.mem_append_right _ (List.mem_append_right _ (.tail _ (.head _)))))), Ne.symm (hrn _ (List.mem_append_right _ (List.mem_append_right _ (List.mem_append_right _ (.tail _ (.tail _ (.head _)))))))⟩
      · exact off p (List.mem_append_right _ (List.mem_append_right _ hp))
    · intro p hp
      rcases List.mem_cons.mp hp with rfl | hp
      · exact ⟨hkey, off_law fun q hq => hrn q (List.mem_append_left _ hq)⟩
      · exact hP2 p hp
  · clear F N N1
    intros c
    obtain ⟨tl1, np1, tp1, na1, made⟩ := c
    revert tl1 np1 tp1 na1 made
    intro tl1 np1 tp1 na1 made ys D h tk g hys hyl hg off F' N'
    obtain ⟨hP1, hP2⟩ := hys
    revert hP1 hP2
    intro hP1 hP2
    dsimp only at hP1 hP2 off N'
    have hys2 : TextsIn made ys [floodF n 20 [x0] [x0], floodF n 20 [x1] [x1]] := hP1
    have oD := off_law fun q hq => off q (List.mem_append_left _ hq)
    have N2 : News h₀ L h (lawLed L o1 o2 o3 o4 o5 o6 ps ++ ((D, lst ys) :: (l.objs w 2 tl1 [] np1 ((x.length : Nat) : Int) tp1 na1 ++ (made ++ fx)))) := fun p hp => by
      rcases List.mem_append.mp hp with hp | hp
      · exact N' p (.tail _ (List.mem_append_left _ hp))
      rcases List.mem_cons.mp hp with rfl | hp
      · exact N' _ (.head _)
      · exact N' p (.tail _ (List.mem_append_right _ hp))
    have f2 : FxOff L ((D, lst ys) :: (l.objs w 2 tl1 [] np1 ((x.length : Nat) : Int) tp1 na1 ++ (made ++ fx))) := fun p hp => by
      rcases List.mem_cons.mp hp with rfl | hp
      · exact oD
      rcases List.mem_append.mp hp with hp | hp
      · exact hlo p.1 (lex_key hp)
      rcases List.mem_append.mp hp with hp | hp
      · exact (hP2 p hp).2
      · exact hfx p hp
    have u1 : ∀ p ∈ fx, p ∈ (D, lst ys) :: (l.objs w 2 tl1 [] np1 ((x.length : Nat) : Int) tp1 na1 ++ (made ++ fx)) := fun p hp => .tail _ (List.mem_append_right _ (List.mem_append_right _ hp))
    have u2 : ∀ p ∈ made, p ∈ (D, lst ys) :: (l.objs w 2 tl1 [] np1 ((x.length : Nat) : Int) tp1 na1 ++ (made ++ fx)) := fun p hp => .tail _ (List.mem_append_right _ (List.mem_append_left _ hp))
    have u3 : (l.xi, instObj 80 l.dx) ∈ (D, lst ys) :: (l.objs w 2 tl1 [] np1 ((x.length : Nat) : Int) tp1 na1 ++ (made ++ fx)) := .tail _ (List.mem_append_left _ (.head _))
    have u4 : (l.dx, lexDict w l 2 tl1) ∈ (D, lst ys) :: (l.objs w 2 tl1 [] np1 ((x.length : Nat) : Int) tp1 na1 ++ (made ++ fx)) := .tail _ (List.mem_append_left _ (.tail _ (.head _)))
    have u5 : (D, W.listOf ys.toArray ys.length) ∈ (D, lst ys) :: (l.objs w 2 tl1 [] np1 ((x.length : Nat) : Int) tp1 na1 ++ (made ++ fx)) := .head _
    have u6 := hys2.mono u2
    generalize (D, lst ys) :: (l.objs w 2 tl1 [] np1 ((x.length : Nat) : Int) tp1 na1 ++ (made ++ fx)) = fy at *
    clear N' off hP1 hP2 hys2 u2
    (try dsimp only)
    k_steps
    refine hold_in ?_
    refine st_cell (own := [(L + 1 + 1 + 1 + 1 + 1 + 1, o1)]) (rest := [(L + 1 + 1 + 1 + 1, o3), (L + 1 + 1 + 1, o4), (L + 1 + 1, o5), (L + 1, o6), (86, tabObj ps)]) F' N2 (fun p hp => Ne.symm (f2 p hp).2.1) rfl d2 ?_ ?_ rfl ?_
    · refine List.forall_mem_cons.mpr ⟨?_, List.forall_mem_nil _⟩ <;> (show @Ne Nat _ _; omega)
    · refine List.forall_mem_cons.mpr ⟨?_, List.forall_mem_cons.mpr ⟨?_, List.forall_mem_cons.mpr ⟨?_, List.forall_mem_cons.mpr ⟨?_, List.forall_mem_cons.mpr ⟨?_, List.forall_mem_nil _⟩⟩⟩⟩⟩ <;> (show @Ne Nat _ _; omega)
    intro h4 o2' F4 N4 d2'
    k_steps
    refine hold_in ?_
    exact ret _ _ _ _ _ _ _ _ _ F4 N4 f2 u1 d2' u5 u6 u3 u4 hg
end Mine
end

section
theorem Mine.top_off_LM : True := by
  w_top off
  trivial
local macro_rules | `(tactic| walk_at "idle") => `(tactic| skip)
local macro_rules | `(tactic| omega) => `(tactic| first | lia | omega (config := {}))
open PySem PySem.W PyProof.Rows PySem.Spec PySem.Calls
namespace Mine
open PyProof.Rows.LCg (lst lst_snoc NsObj ns_obj fr_but news_but)
theorem k_filledLM : (hd.heap_39 = hd.heap_39) ∧ (PySem.Challenge.rw_re0068_01 = PySem.Challenge.rw_re0068_01) := by
  k_fill
  exact ⟨rfl, rfl⟩
local macro_rules | `(tactic| walk_at $k:str) => if ["execs cons", "call ref", "pyIter ref", "eval ListComp", "storeName"].contains k.getString then `(tactic| (refine hold_of ?_)) else Lean.Macro.throwUnsupported
local macro_rules | `(tactic| walk_at "eval Name") => `(tactic| (k_here; (with_reducible show wpAny _ _ (eval (Expr.Name _ _) (compEnvC _ _ _ _)) _ _ _); k_dflt (refine ldVarK (Fr.ns (by k_asm)) (by assumption) ?_)))
local macro_rules | `(tactic| walk_at "eval Name") => `(tactic| (k_here; (with_reducible show wpAny _ _ (eval (Expr.Name _ _) (envOfC _ _ _ _ _)) _ _ _); k_dflt (refine' nameX_L ?F ?v ?_ ?a ?b; (case F => k_asm); (case a => rfl); (case b => rfl); (case v => assumption))))
theorem st11 {prog : Program} {w : World} {s : Shared} {p : Program} {loose : List Str} {mean : ExcName → Option Value} {mg mb : Str → Option Value} {Q : Flow → Shared → Prop} {E : Value → Shared → Prop}
    {h₀ : Heap} {L fa : Addr} {cd : Value} {o1 o2 o3 o4 o5 o6 : Obj} {ps : Array Value} {m : Str → Option Value} {o n : Nat} {fx : List (Addr × Obj)} {ea na : Addr} {ev nv : List Value} {en nn : Nat} {rs : List (List Int)}
    (X : (hd.heap_39 w.params).In h₀) (T : Top p loose mean mg mb h₀) (hn : n ≤ 4)
    (l0 : @LT.lt Nat _ 86 L) (d1 : o1.data = .cell none) (d4 : o4.data = .cell (some (.ref ea))) (d5 : o5.data = .cell (some (.ref na))) (hfx : FxOff L fx)
    (hea : (ea, W.listOf ev.toArray en) ∈ fx) (hev : RowsIn fx ev rs) (hna : (na, W.listOf nv.toArray nn) ∈ fx) (hnv : StrsAre nv (namesO o n)) (hrs : ∀ e ∈ rs, e.length = n) (hrl : rs.length ≤ 64)
    (F : Fr h₀ L s.heap m) (N : News h₀ L s.heap (lawLed L o1 o2 o3 o4 o5 o6 ps ++ fx))
    (ret : ∀ h' tk g fx' sa sv sn o1', Fr h₀ L h' m → News h₀ L h' (lawLed L o1' o2 o3 o4 o5 o6 ps ++ fx') → FxOff L fx' → (∀ p ∈ fx, p ∈ fx') → o1'.data = .cell (some (.ref sa)) → (sa, W.listOf sv.toArray sn) ∈ fx' → StrsAre sv (rs.map fun e => rowF e (namesO o n)) →
      (AllBare s.gens → AllBare g) → wpAny (model prog w) (AM 1) (execs (lawBody.drop 11) (lawEnv L fa cd)) Q E { s with heap := h', toks := tk, gens := g }) :
    wpAny (model prog w) (AM 1) (execs (lawBody.drop 10) (lawEnv L fa cd)) Q E s := by
  revert prog w s p loose mean mg mb Q E h₀ L fa cd o1 o2 o3 o4 o5 o6 ps m o n fx ea na ev nv en nn rs X T hn l0 d1 d4 d5 hfx hea hev hna hnv hrs hrl F N ret
  show ∀ prog w s p loose mean mg mb Q E h₀ L fa cd o1 o2 o3 o4 o5 o6 ps m o n fx ea na ev nv en nn rs X T hn l0 d1 d4 d5 hfx hea hev hna hnv hrs hrl F N ret, _
  intro prog w s p loose mean mg mb Q E h₀ L fa cd o1 o2 o3 o4 o5 o6 ps m o n fx ea na ev nv en nn rs
  intros X T hn l0 d1 d4 d5 hfx hea hev hna hnv hrs hrl F N ret
  have hlen := hev.length
  have N1 := N
  dsimp only [lawBody, the, List.drop]
  dsimp only [lawLed, List.cons_append, List.nil_append] at N1
  refine wpAny_execs_cons ?_
  try dsimp only
  k_steps
  refine hold_in ?_
  k_dflt (refine lc_eval (by with_unfolding_all rfl) rfl (by decide) ?_)
  k_steps
  refine hold_in (comp_list (σ := Unit) (items := ev.toArray) (fun _ => lawLed L o1 o2 o3 o4 o5 o6 ps ++ fx) (fun i _ ys => StrsAre ys ((rs.map fun e => rowF e (namesO o n)).take i)) () rfl (lst_here N (List.mem_append_right _ hea)) (.inr ⟨_, fun _ => List.mem_append_right _ hea⟩) (by rw [sizeLine_eq, List.size_toArray]; omega) (by decide) rfl rfl F N .nil ?_)
  intro g
  refine CompOf.none ?_ ?_
  · clear F N N1
    intro c i v ys m₂ h tk g D C oI oL hi hv hP hg off hm F' N'
    obtain ⟨a, us, an, e, hr1, ha, hus, he⟩ := hev.get (by simpa using hv)
    revert a us an e hr1 ha hus he
    intro a us an e hr1 ha hus he
    obtain rfl := hr1
    dsimp only [lawLed, List.cons_append, List.nil_append] at N'
    refine wpAny_tests_nil ?_
    rw [if_pos rfl]
    k_steps
    (rename Fr _ _ _ _ => lF'); (rename News _ _ _ _ => lN')
    refine hold_in ?_
    have hes : e.length = (namesO o n).length := (hrs e (List.mem_of_getElem? he)).trans namesO_len.symm
    refine am_weak (n := 4) (row_spec (lst_here lN' (by repeat (first | exact List.mem_append_left _ ha | apply List.mem_cons_of_mem))) hus (lst_here lN' (by repeat (first | exact List.mem_append_left _ hna | apply List.mem_cons_of_mem))) hnv names_letters (by rw [namesO_len]; omega) hes (X.keeps lF'.keep) (T.keeps lF'.keep) ?_) rfl (by decide) (by decide)
    intro h2 tk2 t2 kp
    exact q_keep () (fr_kp lF' kp) (news_kp lN' kp) hg off (strs_step hP he)
  · clear F N N1
    intro c ys D h tk g hys hyl hg off F' N'
    have hys2 : StrsAre ys (rs.map fun e => rowF e (namesO o n)) := by
      rw [List.take_of_length_le (by rw [List.length_map, List.size_toArray]; omega)] at hys
      exact hys
    have N2 : News h₀ L h (lawLed L o1 o2 o3 o4 o5 o6 ps ++ ((D, lst ys) :: fx)) := fun p hp => by
      rcases List.mem_append.mp hp with hp | hp
      · exact N' p (.tail _ (List.mem_append_left fx hp))
      · rcases List.mem_cons.mp hp with rfl | hp
        · exact N' _ (.head _)
        · exact N' p (.tail _ (List.mem_append_right _ hp))
    have f2 : FxOff L ((D, lst ys) :: fx) := fun p hp => by
      rcases List.mem_cons.mp hp with rfl | hp
      · exact off_law fun q hq => off q (List.mem_append_left fx hq)
      · exact hfx p hp
    have u1 : ∀ p ∈ fx, p ∈ (D, lst ys) :: fx := fun p hp => .tail _ hp
    have u5 : (D, W.listOf ys.toArray ys.length) ∈ (D, lst ys) :: fx := .head _
    generalize (D, lst ys) :: fx = fy at *
    clear N' off hys hyl
    (try dsimp only)
    k_steps
    refine hold_in ?_
    refine st_cell (own := []) (rest := [(L + 1 + 1 + 1 + 1 + 1, o2), (L + 1 + 1 + 1 + 1, o3), (L + 1 + 1 + 1, o4), (L + 1 + 1, o5), (L + 1, o6), (86, tabObj ps)]) F' N2 (fun p hp => Ne.symm (f2 p hp).1) rfl d1 (List.forall_mem_nil _) ?_ rfl ?_
    · refine List.forall_mem_cons.mpr ⟨?_, List.forall_mem_cons.mpr ⟨?_, List.forall_mem_cons.mpr ⟨?_, List.forall_mem_cons.mpr ⟨?_, List.forall_mem_cons.mpr ⟨?_, List.forall_mem_cons.mpr ⟨?_, List.forall_mem_nil _⟩⟩⟩⟩⟩⟩ <;> (show @Ne Nat _ _; omega)
    intro h4 o1' F4 N4 d1'
    k_steps
    refine hold_in ?_
    exact ret _ _ _ _ _ _ _ _ F4 N4 f2 u1 d1' u5 hys2 hg
end Mine
end

section
theorem Mine.top_off_ZP : True := by
  w_top off
  trivial
local macro_rules | `(tactic| omega) => `(tactic| first | lia | omega (config := {}))
open PySem PySem.W PyProof.Rows PySem.Spec PySem.Calls
namespace Mine
open PyProof.Rows.LCg (lst lst_snoc NsObj ns_obj fr_but news_but)
noncomputable abbrev ZipX (h : Heap) (z TI TO T : Addr) (f : Bool) : Prop := h.get? z = some { cls := .type "zip", dict := none, data := .fields #[rawInt T, .bool f, .bool false, .ref TI, .ref TO], slots := #[] }
section
variable {prog : Program} {w : World} {A : Around} {E : Value → Shared → Prop} {s : Shared} {z TI TO i1 i2 l1 l2 T : Addr} {f : Bool} {oT : Obj} {k : Nat} {xs ys : Array Value} {x y : Value}
theorem zo_item {Q : Option Value → Shared → Prop} (D : ZipApart z TI TO i1 i2 l1 l2) (hz : ZipX s.heap z TI TO T f) (hT : s.heap.get? T = some oT) (hTI : IsPair s.heap TI (.ref i1) (.ref i2))
    (h1 : s.heap.IsListIter i1 l1 k) (h2 : s.heap.IsListIter i2 l2 k) (hl1 : s.heap.IsList l1 xs) (hl2 : s.heap.IsList l2 ys) (hx : xs[k]? = some x) (hy : ys[k]? = some y)
    (hQ : ∀ h', ZipX h' z TI TO T true → h'.IsListIter i1 l1 (k + 1) → h'.IsListIter i2 l2 (k + 1) → IsPair h' s.heap.objs.size x y →
      (∀ c o, c ≠ z → c ≠ i1 → c ≠ i2 → s.heap.get? c = some o → h'.get? c = some o) → Q (some (.ref s.heap.objs.size)) { s with heap := h' }) :
    wpAny (model prog w) A (pyNext (.ref z)) Q E s := by
  revert prog w A E s z TI TO i1 i2 l1 l2 T f oT k xs ys x y Q D hz hT hTI h1 h2 hl1 hl2 hx hy hQ
  show ∀ prog w A E s z TI TO i1 i2 l1 l2 T f oT k xs ys x y Q D hz hT hTI h1 h2 hl1 hl2 hx hy hQ, _
  intro prog w A E s z TI TO i1 i2 l1 l2 T f oT k xs ys x y Q
  intros D hz hT hTI h1 h2 hl1 hl2 hx hy hQ
  have hTy : s.TypeIs (.ref z) "zip" := ⟨_, hz, rfl⟩
  unfold pyNext
  refine wpAny_bind (wpAny_attempt (wpAny_callSpecial?_slot (name := Str.ofString "__next__") hTy PySem.F.slot_zip_next
    (wpAny_call_entry PySem.F.slot_zip_next hTy PySem.F.entry_zip_next ?_ (PySem.F.args_zip_next_1 _))))
  show wpAny _ _ (field (.ref z) 2 >>= _) _ _ _
  refine wpAny_bind (wpAny_field hz rfl (x := .bool false) rfl ?_)
  show wpAny _ _ (field (.ref z) 3 >>= _) _ _ _
  refine wpAny_bind (wpAny_field hz rfl (x := .ref TI) rfl ?_)
  refine wpAny_bind (wpAny_seqItems hTI rfl ?_)
  show wpAny _ _ (Builtin.SmallTypes.ownedTupleIsFree (.ref z) >>= _) _ _ _
  refine wpAny_bind ?_
  unfold Builtin.SmallTypes.ownedTupleIsFree
  refine wpAny_bind (wpAny_field hz rfl (x := rawInt T) rfl ?_)
  show wpAny _ _ (loadIfAlive ((T : Int).toNat) >>= _) _ _ _
  rw [Int.toNat_natCast]
  refine wpAny_bind (kdx_alive hT ?_)
  simp only [Option.isNone_some, Bool.false_eq_true, if_false]
  refine wpAny_bind (wpAny_field hz rfl (x := .bool f) rfl ?_)
  refine wpAny_mono (Q := fun a s' => a = false ∧ ∃ h₁, s' = { s with heap := h₁ } ∧ ZipX h₁ z TI TO T true ∧ Heap.SameBut z s.heap h₁) ?_ ?_ fun _ _ e => e
  · cases f with
    | true =>
      rw [if_neg (show ¬ ((Value.bool true != Value.bool true) = true) from Bool.false_ne_true)]
      exact wpAny_pure ⟨rfl, _, rfl, hz, Heap.SameBut.refl _ _⟩
    | false =>
      rw [if_pos (show (Value.bool false != Value.bool true) = true from rfl)]
      refine wpAny_bind (wpAny_setField_rec hz (by simp) ?_)
      intro h₃ he₃ hs₃
      exact wpAny_pure ⟨rfl, _, rfl, he₃, hs₃⟩
  · intro a s'
    intros hq
    obtain ⟨hr1, h₁, hr2, hz₁, hs₁⟩ := hq
    revert hr1 h₁ hr2 hz₁ hs₁
    intro hr1 h₁ hr2 hz₁ hs₁
    obtain rfl := hr1
    obtain rfl := hr2
    simp only [Bool.false_eq_true, if_false]
    rw [← Array.forIn_toList]
    simp only [List.forIn_cons, List.forIn_nil]
    have h1₁ := h1.extBut hs₁.extBut D.i1z
    have h2₁ := h2.extBut hs₁.extBut D.i2z
    have hl1₁ := hl1.extBut hs₁.extBut D.l1z
    have hl2₁ := hl2.extBut hs₁.extBut D.l2z
    refine wpAny_bind (wpAny_bind (wpAny_bind (wpAny_holding ?_)))
    show wpAny _ _ (Builtin.SmallTypes.nextOf (.ref i1) >>= fun x => pure (some x)) _ _ _
    refine wpAny_bind (wpAny_nextOf_list_item h1₁ hl1₁ hx fun h₂ h1₂ hs₂ => wpAny_pure ?_)
    refine wpAny_pure ?_
    refine wpAny_bind (wpAny_bind (wpAny_holding ?_))
    show wpAny _ _ (Builtin.SmallTypes.nextOf (.ref i2) >>= fun x => pure (some x)) _ _ _
    refine wpAny_bind (wpAny_nextOf_list_item (h2₁.extBut hs₂.extBut D.i12.symm) (hl2₁.extBut hs₂.extBut D.l2i1) hy fun h₃ h2₃ hs₃ => wpAny_pure ?_)
    refine wpAny_pure ?_
    refine wpAny_pure ?_
    refine wpAny_bind (wpAny_newTuple (hsz := Nat.le_of_ble_eq_true rfl) ?_)
    have hsz : h₃.objs.size = s.heap.objs.size := by rw [hs₃.1, hs₂.1, hs₁.1]
    have hk₃ : ∀ c o, c ≠ z → c ≠ i1 → c ≠ i2 → s.heap.get? c = some o → (h₃.push { cls := .type "tuple", data := .seq #[x, y] }).get? c = some o := fun c o c1 c2 c3 e =>
      Heap.get?_push_of_some _ (hs₃.extBut _ _ c3 (hs₂.extBut _ _ c2 (hs₁.extBut _ _ c1 e)))
    have hz₃ : ZipX h₃ z TI TO T true := hs₃.extBut _ _ D.i2z.symm (hs₂.extBut _ _ D.i1z.symm hz₁)
    refine wpAny_pure ⟨_, rfl, wpAny_pure ?_⟩
    show Q (some (.ref h₃.objs.size)) _
    have ht : IsPair (h₃.push { cls := .type "tuple", data := .seq #[x, y] }) s.heap.objs.size x y := by rw [← hsz]; exact Heap.get?_push_size _ rfl
    rw [hsz]
    exact hQ _ (Heap.get?_push_of_some _ hz₃) ((h1₂.extBut hs₃.extBut D.i12).at fun o e => Heap.get?_push_of_some _ e) (h2₃.at fun o e => Heap.get?_push_of_some _ e) ht hk₃
theorem zo_end {Q : Option Value → Shared → Prop} (hh : A.handled = none) (D : ZipApart z TI TO i1 i2 l1 l2) (hz : ZipX s.heap z TI TO T f) (hT : s.heap.get? T = some oT) (hTI : IsPair s.heap TI (.ref i1) (.ref i2))
    (h1 : s.heap.IsListIter i1 l1 k) (hl1 : s.heap.IsList l1 xs) (hx : xs[k]? = none)
    (hQ : ∀ h', (∀ c o, c ≠ z → c ≠ i1 → s.heap.get? c = some o → h'.get? c = some o) → Q none { s with heap := h' }) :
    wpAny (model prog w) A (pyNext (.ref z)) Q E s := by
  have hTy : s.TypeIs (.ref z) "zip" := ⟨_, hz, rfl⟩
  unfold pyNext
  refine wpAny_bind (wpAny_attempt (wpAny_callSpecial?_slot (name := Str.ofString "__next__") hTy PySem.F.slot_zip_next
    (wpAny_call_entry PySem.F.slot_zip_next hTy PySem.F.entry_zip_next ?_ (PySem.F.args_zip_next_1 _))))
  show wpAny _ _ (field (.ref z) 2 >>= _) _ _ _
  refine wpAny_bind (wpAny_field hz rfl (x := .bool false) rfl ?_)
  show wpAny _ _ (field (.ref z) 3 >>= _) _ _ _
  refine wpAny_bind (wpAny_field hz rfl (x := .ref TI) rfl ?_)
  refine wpAny_bind (wpAny_seqItems hTI rfl ?_)
  show wpAny _ _ (Builtin.SmallTypes.ownedTupleIsFree (.ref z) >>= _) _ _ _
  refine wpAny_bind ?_
  unfold Builtin.SmallTypes.ownedTupleIsFree
  refine wpAny_bind (wpAny_field hz rfl (x := rawInt T) rfl ?_)
  show wpAny _ _ (loadIfAlive ((T : Int).toNat) >>= _) _ _ _
  rw [Int.toNat_natCast]
  refine wpAny_bind (kdx_alive hT ?_)
  simp only [Option.isNone_some, Bool.false_eq_true, if_false]
  refine wpAny_bind (wpAny_field hz rfl (x := .bool f) rfl ?_)
  refine wpAny_mono (Q := fun a s' => a = false ∧ ∃ h₁, s' = { s with heap := h₁ } ∧ ZipX h₁ z TI TO T true ∧ Heap.SameBut z s.heap h₁) ?_ (fun a s' hq => ?_) fun _ _ e => e
  · cases f with
    | true =>
      rw [if_neg (show ¬ ((Value.bool true != Value.bool true) = true) from Bool.false_ne_true)]
      exact wpAny_pure ⟨rfl, _, rfl, hz, Heap.SameBut.refl _ _⟩
    | false =>
      rw [if_pos (show (Value.bool false != Value.bool true) = true from rfl)]
      refine wpAny_bind (wpAny_setField_rec hz (by simp) fun h₃ he₃ hs₃ => ?_)
      exact wpAny_pure ⟨rfl, _, rfl, he₃, hs₃⟩
  · obtain ⟨rfl, h₁, rfl, hz₁, hs₁⟩ := hq
    simp only [Bool.false_eq_true, if_false]
    rw [← Array.forIn_toList]
    simp only [List.forIn_cons, List.forIn_nil]
    have h1₁ := h1.extBut hs₁.extBut D.i1z
    have hl1₁ := hl1.extBut hs₁.extBut D.l1z
    refine wpAny_bind (wpAny_bind (wpAny_bind (wpAny_holding ?_)))
    show wpAny _ _ (Builtin.SmallTypes.nextOf (.ref i1) >>= fun x => pure (some x)) _ _ _
    refine wpAny_bind (wpAny_nextOf_list_end hh h1₁ hl1₁ hx fun h₂ e hs₂ he => ?_)
    obtain ⟨o, ho, hc⟩ := he
    refine wpAny_bind (wpAny_isInstance (T := "StopIteration") (b := true) ⟨o, ho, hc⟩ isSubtype_stop ?_)
    exact wpAny_pure (hQ _ fun c o c1 c2 e => hs₂ _ _ c2 (hs₁.extBut _ _ c1 e))
end
end Mine
end

section
theorem Mine.top_off_ZQ : True := by
  w_top off
  trivial
local macro_rules | `(tactic| omega) => `(tactic| first | lia | omega (config := {}))
open PySem PySem.W PyProof.Rows PySem.Spec PySem.Calls
namespace Mine
open PyProof.Rows.LCg (lst lst_snoc NsObj ns_obj fr_but news_but)
theorem zip_take {as bs : List Int} {i : Nat} {a b : Int} (ha : as[i]? = some a) (hb : bs[i]? = some b) : (List.zipWith max as bs).take (i + 1) = (List.zipWith max as bs).take i ++ [max a b] := by
  rw [List.take_add_one, List.getElem?_zipWith, ha, hb]; rfl
theorem ints_nth {vs : List Value} {ws : List Int} (h : IntsAre vs ws) : ∀ {i : Nat} {y : Int}, ws[i]? = some y → ∃ t, vs[i]? = some (.int y t) := by
  induction h with
  | nil => intros i v e; cases i <;> cases e
  | cons x t _ ih =>
    intros i v e
    cases i with
    | zero => cases e; exact ⟨t, rfl⟩
    | succ i => exact ih e
noncomputable abbrev twoObj (a b : Value) : Obj := { cls := .type "tuple", data := .seq #[a, b] }
theorem zipx_inj {h : Heap} {z TI TO T T' : Addr} {f f' : Bool} (a : ZipX h z TI TO T f) (b : ZipX h z TI TO T' f') : T = T' := by
  have q2 := Option.some.inj (a.symm.trans b)
  injection q2 with _ _ q3 _
  injection q3 with q3
  have q4 : (#[rawInt T, .bool f, .bool false, .ref TI, .ref TO] : Array Value)[0]? = (#[rawInt T', .bool f', .bool false, .ref TI, .ref TO] : Array Value)[0]? := by rw [q3]
  have q5 : rawInt (T : Int) = rawInt (T' : Int) := Option.some.inj q4
  injection q5 with q6
  exact Int.ofNat.inj q6
theorem zipx_none {h : Heap} {z TI TO T : Addr} {f : Bool} (a : IsZip h z TI TO .none) (b : ZipX h z TI TO T f) : False := by
  have q2 := Option.some.inj (a.symm.trans b)
  injection q2 with _ _ q3 _
  injection q3 with q3
  have q4 : (#[Value.none, .bool false, .bool false, .ref TI, .ref TO] : Array Value)[0]? = (#[rawInt T, .bool f, .bool false, .ref TI, .ref TO] : Array Value)[0]? := by rw [q3]
  have q5 : Value.none = rawInt (T : Int) := Option.some.inj q4
  cases q5
theorem max_pair {prog : Program} {w : World} {A : Around} {E : Value → Shared → Prop} {s : Shared} {T : Addr} {a b : Int} {ta tb : Tok} {Q : Value → Shared → Prop} (hh : A.handled = none) (ht : s.heap.get? T = some (twoObj (.int a ta) (.int b tb)))
    (h : ∀ t h' tk, (∀ b o, s.heap.get? b = some o → h'.get? b = some o) → Q (.int (max a b) t) { s with heap := h', toks := tk }) : wpAny (model prog w) A (call (.builtin "max") [.ref T]) Q E s := by
  have hT : s.heap.IsTuple T #[.int a ta, .int b tb] := ⟨_, ht, rfl, _, rfl⟩
  have hlt : T < s.heap.objs.size := Heap.lt_size ht
  refine call_max_walk (wpAny_pyIter_tuple hT ?_)
  refine ⟨_, _, _, _, _, _, _, rfl, Walks.tuple (A := A.in1) hh s.heap.objs.size T (Nat.ne_of_lt hlt) #[.int a ta, .int b tb], ⟨⟨_, Heap.get?_push_size _ rfl, rfl, rfl⟩, ⟨_, Heap.get?_push_of_some _ ht, rfl, _, rfl⟩⟩, fun b hb => ?_, Nat.zero_lt_two,
    CmpOf.ints_gt (fun i => if i = 0 then a else b) (fun i v hv => ?_), fun v h' tk hP hk => ?_⟩
  · show b < (s.heap.push _).objs.size
    rw [Heap.size_push]
    rcases List.mem_cons.mp hb with rfl | hb
    · exact Nat.lt_succ_self _
    · rw [List.mem_singleton.mp hb]; exact Nat.lt_succ_of_lt hlt
  · match i with
    | 0 => cases hv; exact ⟨ta, rfl⟩
    | 1 => cases hv; exact ⟨tb, rfl⟩
    | i + 2 => cases hv
  · have kk : ∀ b o, s.heap.get? b = some o → h'.get? b = some o := fun c o e => hk c o (fun q => absurd (List.mem_singleton.mp q ▸ Heap.lt_size e) (Nat.lt_irrefl _)) (Heap.get?_push_of_some _ e)
    have hv : ∃ t, v = .int (max a b) t := by
      have h2 : (#[Value.int a ta, .int b tb] : Array Value)[if decide (b > a) = true then 1 else 0]? = some v := hP
      by_cases hab : b > a
      · rw [if_pos (decide_eq_true hab)] at h2
        cases h2
        exact ⟨tb, by rw [Int.max_eq_right (Int.le_of_lt hab)]; rfl⟩
      · rw [if_neg (by rw [decide_eq_false hab]; exact Bool.false_ne_true)] at h2
        cases h2
        exact ⟨ta, by rw [Int.max_eq_left (Int.not_lt.mp hab)]; rfl⟩
    obtain ⟨t, rfl⟩ := hv
    exact h t h' tk kk
/-- the zip's state between the turns -/
noncomputable def ZS (z TI TO i1 i2 l1 l2 : Addr) (i : Nat) (h : Heap) : Prop :=
  IsPair h TI (.ref i1) (.ref i2) ∧ h.IsListIter i1 l1 i ∧ h.IsListIter i2 l2 i ∧ ((IsZip h z TI TO .none ∧ (∃ a b, IsPair h TO a b) ∧ i = 0) ∨ (∃ T f oT, ZipX h z TI TO T f ∧ h.get? T = some oT ∧ (T ≠ z ∧ T ≠ i1 ∧ T ≠ i2)))
theorem zs_at {z TI TO i1 i2 l1 l2 : Addr} {i : Nat} {h h' : Heap} (st : ZS z TI TO i1 i2 l1 l2 i h) (k : ∀ b o, h.get? b = some o → h'.get? b = some o) : ZS z TI TO i1 i2 l1 l2 i h' := by
  obtain ⟨a, b, c, d⟩ := st
  refine ⟨k _ _ a, b.at fun o e => k _ o e, c.at fun o e => k _ o e, ?_⟩
  rcases d with ⟨d1, ⟨x, y, d2⟩, d3⟩ | ⟨T, f, oT, d1, d2, d3⟩
  · exact .inl ⟨k _ _ d1, ⟨x, y, k _ _ d2⟩, d3⟩
  · exact .inr ⟨T, f, oT, k _ _ d1, k _ _ d2, d3⟩
theorem zs_but {z TI TO i1 i2 l1 l2 X : Addr} {i : Nat} {h h' : Heap} {n : Nat} (st : ZS z TI TO i1 i2 l1 l2 i h) (hT : ∀ T f, ZipX h z TI TO T f → X ≠ T) (hX : X ≠ TI ∧ X ≠ i1 ∧ X ≠ i2 ∧ X ≠ z ∧ X ≠ TO) (k : ∀ b o, b ≠ X → h.get? b = some o → h'.get? b = some o) : ZS z TI TO i1 i2 l1 l2 i h' := by
  obtain ⟨a, b, c, d⟩ := st
  refine ⟨k _ _ hX.1.symm a, b.at fun o e => k _ o hX.2.1.symm e, c.at fun o e => k _ o hX.2.2.1.symm e, ?_⟩
  rcases d with ⟨d1, ⟨x, y, d2⟩, d3⟩ | ⟨T, f, oT, d1, d2, d3⟩
  · exact .inl ⟨k _ _ hX.2.2.2.1.symm d1, ⟨x, y, k _ _ hX.2.2.2.2.symm d2⟩, d3⟩
  · exact .inr ⟨T, f, oT, k _ _ hX.2.2.2.1.symm d1, k _ _ (Ne.symm (hT T f d1)) d2, d3⟩

section
variable {prog : Program} {w : World} {A : Around} {E : Value → Shared → Prop} {env : Env} {h₀ : Heap} {L : Addr} {m : Str → Option Value}
theorem zip_comp {elt iter : Expr} {x : Str} {px : Pos} {scope : Scope} {cl : List (Str × Addr)} {pos : Pos} {Q : Value → Shared → Prop} {s : Shared}
    {z TI TO i1 i2 l1 l2 : Addr} {xs ys : List Value} {as bs : List Int} {n c1 c2 : Nat} (news : List (Addr × Obj))
    (hh : A.handled = none) (D : ZipApart z TI TO i1 i2 l1 l2) (hz : IsZip s.heap z TI TO .none) (st : ZS z TI TO i1 i2 l1 l2 0 s.heap)
    (hx1 : IntsAre xs as) (hy1 : IntsAre ys bs) (hn1 : as.length = n) (hn2 : bs.length = n) (hnp : 0 < n) (hn : n ≤ 64)
    (hl1 : (l1, W.listOf xs.toArray c1) ∈ news) (hl2 : (l2, W.listOf ys.toArray c2) ∈ news)
    (hcell : ∀ y ∈ scope.names, y.2 ≠ .cell) (hkind : scope.kind = .function) (hx : scope.names.lookup x = some .local)
    (F : Fr h₀ L s.heap m) (N : News h₀ L s.heap news)
    (new : ∀ a, a = z ∨ a = TO ∨ a = i1 ∨ a = i2 → L ≠ a ∧ h₀.get? a = none ∧ ∀ p ∈ news, p.1 ≠ a)
    (turn : ∀ a b ta tb T C h tk m₂, m₂ x = some (.ref T) → Fr h₀ C h m₂ → News h₀ C h ((T, twoObj (.int a ta) (.int b tb)) :: news) →
      wpAny (model prog w) A (eval elt (compEnvC scope cl C env)) (fun y s₄ => ∃ t h' tk', y = .int (max a b) t ∧ s₄ = { s with heap := h', toks := tk' } ∧ ∀ b o, h.get? b = some o → h'.get? b = some o) (fun _ _ => False) { s with heap := h, toks := tk })
    (fin : ∀ D h tk ys, IntsAre ys (List.zipWith max as bs) → Fr h₀ L h m → News h₀ L h ((D, lst ys) :: news) → (∀ p ∈ news, p.1 ≠ D) → Q (.ref D) { s with heap := h, toks := tk }) :
    wpAny (model prog w) A (pyIter (.ref z)) (Blk prog w A E env elt iter x px [] scope cl pos none Q) E s := by
  revert prog w A E env h₀ L m elt iter x px scope cl pos Q s z TI TO i1 i2 l1 l2 xs ys as bs n c1 c2 news hh D hz st hx1 hy1 hn1 hn2 hnp hn hl1 hl2 hcell hkind hx F N new turn fin
  show ∀ prog w A E env h₀ L m elt iter x px scope cl pos Q s z TI TO i1 i2 l1 l2 xs ys as bs n c1 c2 news hh D hz st hx1 hy1 hn1 hn2 hnp hn hl1 hl2 hcell hkind hx F N new turn fin, _
  intro prog w A E env h₀ L m elt iter x px scope cl pos Q s z TI TO i1 i2 l1 l2 xs ys as bs n c1 c2 news
  intros hh D hz st hx1 hy1 hn1 hn2 hnp hn hl1 hl2 hcell hkind hx F N new turn fin
  refine wpAny_pyIter_zip hz ?_
  refine wpAny_newObj_type (wpAny_newFunctionEnv hcell (by intro y hy; simp at hy) ?_ hkind)
  intro h₁ hns₁ hsb₁
  dsimp only at hns₁ hsb₁ ⊢
  generalize hH2 : s.heap.push { cls := .type "list", dict := none, data := .seq ([] : List Value).toArray } = H2 at hns₁ hsb₁ ⊢
  have hC : H2.objs.size = s.heap.objs.size + 1 := by rw [← hH2, Heap.size_push]
  have hDC : s.heap.objs.size ≠ H2.objs.size := by rw [hC]; exact Nat.ne_of_lt (Nat.lt_succ_self _)
  have below : ∀ b, b < s.heap.objs.size → b ≠ H2.objs.size ∧ b ≠ s.heap.objs.size := fun b hb => ⟨by rw [hC]; exact Nat.ne_of_lt (Nat.lt_succ_of_lt hb), Nat.ne_of_lt hb⟩
  have old : ∀ b o, s.heap.get? b = some o → h₁.get? b = some o := fun b o e => hsb₁.extBut b o (below b (Heap.lt_size e)).1 (Heap.get?_push_of_some _ (hH2 ▸ Heap.get?_push_of_some _ e))
  have hacc : h₁.get? s.heap.objs.size = some (lst []) := hsb₁.extBut _ _ hDC (Heap.get?_push_of_some _ (hH2 ▸ Heap.get?_push_size _ rfl))
  have hLlt : L < s.heap.objs.size := F.ns.lt
  have habL : h₀.objs.size ≤ L := F.above
  have hDL : s.heap.objs.size ≠ L := Ne.symm (below L hLlt).2
  have hCL : H2.objs.size ≠ L := Ne.symm (below L hLlt).1
  have hD₀ : h₀.get? s.heap.objs.size = none := Heap.get?_none_of_le (Nat.le_trans habL (Nat.le_of_lt hLlt))
  have habC : h₀.objs.size ≤ H2.objs.size := by rw [hC]; exact Nat.le_succ_of_le (Nat.le_trans habL (Nat.le_of_lt hLlt))
  have hC₀ : h₀.get? H2.objs.size = none := Heap.get?_none_of_le habC
  have zlt : z < s.heap.objs.size ∧ TI < s.heap.objs.size ∧ i1 < s.heap.objs.size ∧ i2 < s.heap.objs.size ∧ TO < s.heap.objs.size := by
    obtain ⟨a, ⟨_, b, _⟩, ⟨_, c, _⟩, d⟩ := st
    rcases d with ⟨d1, ⟨_, _, d2⟩, _⟩ | ⟨_, _, _, d1, _⟩
    · exact ⟨Heap.lt_size hz, Heap.lt_size a, Heap.lt_size b, Heap.lt_size c, Heap.lt_size d2⟩
    · exact (zipx_none hz d1).elim
  obtain ⟨oL, heL, hoL⟩ := ns_obj F.ns
  revert oL heL hoL
  intro oL heL hoL
  have nC : ∀ {a}, a < s.heap.objs.size → a ≠ H2.objs.size := fun h => (below _ h).1
  have nD : ∀ {a}, a < s.heap.objs.size → a ≠ s.heap.objs.size := fun h => (below _ h).2
  have wr : ∀ b, (b ≠ z ∧ b ≠ TO ∧ b ≠ i1 ∧ b ≠ i2) ∨ b = z ∨ b = TO ∨ b = i1 ∨ b = i2 := fun b => by
    by_cases h1 : b = z
    · exact .inr (.inl h1)
    by_cases h2 : b = TO
    · exact .inr (.inr (.inl h2))
    by_cases h3 : b = i1
    · exact .inr (.inr (.inr (.inl h3)))
    by_cases h4 : b = i2
    · exact .inr (.inr (.inr (.inr h4)))
    exact .inl ⟨h1, h2, h3, h4⟩
  have lwr := fun (P : Addr → Prop) (hz' : P z) (ho' : P TO) (h1' : P i1) (h2' : P i2) => fun a (ha : a = z ∨ a = TO ∨ a = i1 ∨ a = i2) => (by rcases ha with rfl | rfl | rfl | rfl <;> assumption : P a)
  have loop : ∀ s₃ : Shared, s₃ = { s with heap := h₁, toks := s.toks + ([] : List (Str × Value)).length } →
      codeAny (model prog w) A (.compLoop (.ListComp elt [⟨.Name x px, iter, [], 0⟩] scope pos) 0 (.ref z) (.ref s.heap.objs.size) (compEnvC scope cl H2.objs.size env))
        (compPost (model prog w) A E none Q (.ref s.heap.objs.size) H2.objs.size) s₃ := by
    intro s₃ hr1
    obtain rfl := hr1
    refine codeAny_compLoop_tests
      (fun k s' => ∃ (h' : Heap) (tk : Nat) (i : Nat) (vs : List Value) (m' : Str → Option Value), s' = { s with heap := h', toks := tk } ∧ i ≤ n ∧ k = n + 1 - i ∧ vs.length = i ∧ ZS z TI TO i1 i2 l1 l2 i h' ∧ (∀ T f, ZipX h' z TI TO T f → T ≠ s.heap.objs.size ∧ T ≠ H2.objs.size) ∧
        (∀ b o, h₀.get? b = some o → h'.get? b = some o) ∧ h'.Ns H2.objs.size m' ∧ h'.get? s.heap.objs.size = some (lst vs) ∧ h'.get? L = some oL ∧ News h₀ H2.objs.size h' news ∧ IntsAre vs ((List.zipWith max as bs).take i)) ?_ (n + 1)
      ⟨h₁, _, 0, [], _, rfl, Nat.zero_le _, rfl, rfl, zs_at st old, (fun T f e => (zipx_none (old _ _ hz) e).elim), fun b o e => old b o (F.keep b o e), hns₁, hacc, old _ _ heL, fun p hp => ⟨old _ _ (N p hp).1, (below _ (Heap.lt_size (N p hp).1)).1, (N p hp).2.2⟩, .nil⟩
    intro k s' xo2
    obtain ⟨h', tk, i, vs, m', hr5, hi, hr6, hvl, hst', hTn, hk', hn', hD', hL', N', hP⟩ := (xo2)
    revert h' tk i vs m' hr5 hi hr6 hvl hst' hTn hk' hn' hD' hL' N' hP
    intro h' tk i vs m' hr5 hi hr6 hvl hst' hTn hk' hn' hD' hL' N' hP
    obtain rfl := hr5
    obtain rfl := hr6
    have IL1 : h'.IsList l1 xs.toArray := ⟨_, (N' _ hl1).1, rfl, _, rfl⟩
    have IL2 : h'.IsList l2 ys.toArray := ⟨_, (N' _ hl2).1, rfl, _, rfl⟩
    by_cases hlt : i < n
    · obtain ⟨a, ha⟩ : ∃ a, as[i]? = some a := ⟨_, List.getElem?_eq_getElem (by omega)⟩
      revert a ha
      intro a ha
      obtain ⟨b, hb⟩ : ∃ b, bs[i]? = some b := ⟨_, List.getElem?_eq_getElem (by omega)⟩
      revert b hb
      intro b hb
      obtain ⟨ta, hxa⟩ := ints_nth hx1 ha
      revert ta hxa
      intro ta hxa
      obtain ⟨tb, hyb⟩ := ints_nth hy1 hb
      revert tb hyb
      intro tb hyb
      have next : ∀ (h₂ : Heap) (T : Addr), ZS z TI TO i1 i2 l1 l2 (i + 1) h₂ → (∀ T f, ZipX h₂ z TI TO T f → T ≠ s.heap.objs.size ∧ T ≠ H2.objs.size) → h₂.get? T = some (twoObj (.int a ta) (.int b tb)) → h'.get? T = none →
          (∀ c o, c ≠ z → c ≠ TO → c ≠ i1 → c ≠ i2 → h'.get? c = some o → h₂.get? c = some o) →
          wpAny (model prog w) A (assign (.Name x px) (compEnvC scope cl H2.objs.size env) (.ref T)) (fun _ s₂ =>
            wpAny (model prog w) A (forIn ([] : List Expr) true fun c r => if r = true then do let ok ← isTrue c (compEnvC scope cl H2.objs.size env) (eval c (compEnvC scope cl H2.objs.size env)); pure (ForInStep.yield ok) else pure (ForInStep.yield r)) (fun ok s₃ =>
              if ok = true then wpAny (model prog w) A (eval elt (compEnvC scope cl H2.objs.size env)) (fun x s₄ =>
                wpAny (model prog w) A (call (.builtin "list.append") [.ref s.heap.objs.size, x]) (fun _ s₅ => ∃ mm, mm < n + 1 - i ∧ ∃ (h' : Heap) (tk : Nat) (i : Nat) (vs : List Value) (m' : Str → Option Value), s₅ = { s with heap := h', toks := tk } ∧ i ≤ n ∧ mm = n + 1 - i ∧ vs.length = i ∧ ZS z TI TO i1 i2 l1 l2 i h' ∧ (∀ T f, ZipX h' z TI TO T f → T ≠ s.heap.objs.size ∧ T ≠ H2.objs.size) ∧
                  (∀ b o, h₀.get? b = some o → h'.get? b = some o) ∧ h'.Ns H2.objs.size m' ∧ h'.get? s.heap.objs.size = some (lst vs) ∧ h'.get? L = some oL ∧ News h₀ H2.objs.size h' news ∧ IntsAre vs ((List.zipWith max as bs).take i)) (notedBy (model prog w) A (compEnvC scope cl H2.objs.size env) fun e s' => compPost (model prog w) A E none Q (.ref s.heap.objs.size) H2.objs.size (.error e) s') s₄) (notedBy (model prog w) A (compEnvC scope cl H2.objs.size env) fun e s' => compPost (model prog w) A E none Q (.ref s.heap.objs.size) H2.objs.size (.error e) s') s₃
              else ∃ mm, mm < n + 1 - i ∧ ∃ (h' : Heap) (tk : Nat) (i : Nat) (vs : List Value) (m' : Str → Option Value), s₃ = { s with heap := h', toks := tk } ∧ i ≤ n ∧ mm = n + 1 - i ∧ vs.length = i ∧ ZS z TI TO i1 i2 l1 l2 i h' ∧ (∀ T f, ZipX h' z TI TO T f → T ≠ s.heap.objs.size ∧ T ≠ H2.objs.size) ∧
                  (∀ b o, h₀.get? b = some o → h'.get? b = some o) ∧ h'.Ns H2.objs.size m' ∧ h'.get? s.heap.objs.size = some (lst vs) ∧ h'.get? L = some oL ∧ News h₀ H2.objs.size h' news ∧ IntsAre vs ((List.zipWith max as bs).take i)) (notedBy (model prog w) A (compEnvC scope cl H2.objs.size env) fun e s' => compPost (model prog w) A E none Q (.ref s.heap.objs.size) H2.objs.size (.error e) s') s₂) (notedBy (model prog w) A (compEnvC scope cl H2.objs.size env) fun e s' => compPost (model prog w) A E none Q (.ref s.heap.objs.size) H2.objs.size (.error e) s') { s with heap := h₂, toks := tk } := by
        intro h₂ T hst₂ hTn₂ hT₂ hTf hk₂
        have k2 : ∀ b o, (b ≠ z ∧ b ≠ TO ∧ b ≠ i1 ∧ b ≠ i2) → h'.get? b = some o → h₂.get? b = some o := fun b o hb e => hk₂ b o hb.1 hb.2.1 hb.2.2.1 hb.2.2.2 e
        have w0 : ∀ b o, h₀.get? b = some o → (b ≠ z ∧ b ≠ TO ∧ b ≠ i1 ∧ b ≠ i2) := fun b o e => by
          rcases wr b with h | h
          · exact h
          · rw [(new b h).2.1] at e; cases e
        have wL : L ≠ z ∧ L ≠ TO ∧ L ≠ i1 ∧ L ≠ i2 := ⟨(new z (.inl rfl)).1, (new TO (.inr (.inl rfl))).1, (new i1 (.inr (.inr (.inl rfl)))).1, (new i2 (.inr (.inr (.inr rfl)))).1⟩
        have wN : ∀ p ∈ news, p.1 ≠ z ∧ p.1 ≠ TO ∧ p.1 ≠ i1 ∧ p.1 ≠ i2 := fun p hp => ⟨(new z (.inl rfl)).2.2 p hp, (new TO (.inr (.inl rfl))).2.2 p hp, (new i1 (.inr (.inr (.inl rfl)))).2.2 p hp, (new i2 (.inr (.inr (.inr rfl)))).2.2 p hp⟩
        have wD : s.heap.objs.size ≠ z ∧ s.heap.objs.size ≠ TO ∧ s.heap.objs.size ≠ i1 ∧ s.heap.objs.size ≠ i2 := ⟨(nD zlt.1).symm, (nD zlt.2.2.2.2).symm, (nD zlt.2.2.1).symm, (nD zlt.2.2.2.1).symm⟩
        have wC : H2.objs.size ≠ z ∧ H2.objs.size ≠ TO ∧ H2.objs.size ≠ i1 ∧ H2.objs.size ≠ i2 := ⟨(nC zlt.1).symm, (nC zlt.2.2.2.2).symm, (nC zlt.2.2.1).symm, (nC zlt.2.2.2.1).symm⟩
        have hTC : T ≠ H2.objs.size := fun e => by
          obtain ⟨o, xu7, xu8, hgo, xu9⟩ := hn'
          revert o xu7 xu8 hgo xu9
          intro o xu7 xu8 hgo xu9
          rw [← e, hTf] at hgo; cases hgo
        have hT₀ : h₀.get? T = none := by
          cases q : h₀.get? T with
          | none => rfl
          | some o => have := hk' _ _ q; rw [hTf] at this; cases this
        refine wpAny_assign_Name (wpAny_storeName_local (lookup_relabel_local hx) (hn'.at' fun o e => k2 _ o wC e) ?_ (by simp [compEnvC, relabel, hkind]))
        intro h₃ hn₃ hs₃
        replace hs₃ : Heap.SameBut H2.objs.size h₂ h₃ := hs₃
        have k3 : ∀ b o, b ≠ H2.objs.size → h₂.get? b = some o → h₃.get? b = some o := fun b o hb e => (hs₃.2 b hb).trans e
        have hst₃ : ZS z TI TO i1 i2 l1 l2 (i + 1) h₃ := zs_but (n := 0) hst₂ (fun T f e => (hTn₂ T f e).2.symm) ⟨(nC zlt.2.1).symm, (nC zlt.2.2.1).symm, (nC zlt.2.2.2.1).symm, (nC zlt.1).symm, (nC zlt.2.2.2.2).symm⟩ k3
        have hTn₃ : ∀ T f, ZipX h₃ z TI TO T f → T ≠ s.heap.objs.size ∧ T ≠ H2.objs.size := fun T f e => hTn₂ T f ((hs₃.2 z (nC zlt.1)).symm.trans e)
        have F₃ : Fr h₀ H2.objs.size h₃ _ := ⟨hn₃, fun b o e => k3 b o (fun q => by rw [q, hC₀] at e; cases e) (k2 b o (w0 b o e) (hk' b o e)), habC⟩
        have N₃ : News h₀ H2.objs.size h₃ ((T, twoObj (.int a ta) (.int b tb)) :: news) := fun p hp => by
          rcases List.mem_cons.mp hp with rfl | hp
          · exact ⟨k3 _ _ hTC hT₂, hTC, hT₀⟩
          · exact ⟨k3 _ _ (N' p hp).2.1 (k2 _ _ (wN p hp) (N' p hp).1), (N' p hp).2⟩
        have hD₃ := k3 _ _ hDC (k2 _ _ wD hD')
        have hL₃ := k3 _ _ (Ne.symm hCL) (k2 _ _ wL hL')
        refine wpAny_tests_nil ?_
        rw [if_pos rfl]
        refine wpAny_mono (turn a b ta tb T H2.objs.size h₃ _ _ (by simp) F₃ N₃) ?_ fun _ _ q => q.elim
        intro y s₄
        intros hq
        obtain ⟨t, h₄, tk₄, hr10, hr11, k4⟩ := hq
        revert t h₄ tk₄ hr10 hr11 k4
        intro t h₄ tk₄ hr10 hr11 k4
        obtain rfl := hr10
        obtain rfl := hr11
        refine append_at (hsz := by show vs.toArray.size ≤ sizeLine; rw [List.size_toArray, hvl, sizeLine_eq]; omega) (k4 _ _ hD₃) fun h₅ hs₅ hD₅ => ?_
        have k5 : ∀ b o, b ≠ s.heap.objs.size → h₄.get? b = some o → h₅.get? b = some o := fun b o hb e => (hs₅.2 b hb).trans e
        have z4 := zs_at hst₃ k4
        have hzz : ∀ T f, ZipX h₄ z TI TO T f → T ≠ s.heap.objs.size ∧ T ≠ H2.objs.size := fun T f e => by
          obtain ⟨xu12, xu13, xu14, d⟩ := hst₃
          revert xu12 xu13 xu14 d
          intro xu12 xu13 xu14 d
          rcases d with ⟨_, _, d3⟩ | ⟨T', f', _, d1, _⟩
          · exact absurd d3 (Nat.succ_ne_zero i)
          · have q3 := zipx_inj e (k4 _ _ d1)
            exact q3 ▸ hTn₃ T' f' d1
        have n5 := F₃.ns.at' (h' := h₅) fun o e => k5 _ o (Ne.symm hDC) (k4 _ o e)
        refine ⟨n + 1 - (i + 1), by omega, h₅, _, i + 1, vs ++ [.int (max a b) t], _, rfl, hlt, rfl, by simp [hvl], ?_, ?_, ?_, n5, ?_, ?_, ?_, ?_⟩
        · exact zs_but (n := 0) z4 (fun T f e => (hzz T f e).1.symm) ⟨(nD zlt.2.1).symm, (nD zlt.2.2.1).symm, (nD zlt.2.2.2.1).symm, (nD zlt.1).symm, (nD zlt.2.2.2.2).symm⟩ k5
        · exact fun T f e => hzz T f ((hs₅.2 z (nD zlt.1)).symm.trans e)
        · exact fun b o e => k5 b o (fun q => by rw [q, hD₀] at e; cases e) (k4 _ _ (F₃.keep b o e))
        · exact hD₅.trans (congrArg some (lst_snoc vs _))
        · exact k5 _ _ (Ne.symm hDL) (k4 _ _ hL₃)
        · intro p hp
          have zN := N₃ p (.tail _ hp)
          exact ⟨k5 _ _ (fun e => by
            have := (N p hp).1
            exact absurd (Heap.lt_size this) (by rw [e]; exact Nat.lt_irrefl _)) (k4 _ _ zN.1), zN.2⟩
        · rw [zip_take ha hb]
          exact hP.append (.cons _ _ .nil)
      obtain ⟨s1, s2, s3, s4⟩ := hst'
      revert s1 s2 s3 s4
      intro s1 s2 s3 s4
      have hxx : xs.toArray[i]? = some (.int a ta) := by simpa using hxa
      have hyy : ys.toArray[i]? = some (.int b tb) := by simpa using hyb
      have hbig : s.heap.objs.size < h'.objs.size ∧ H2.objs.size < h'.objs.size := ⟨Heap.lt_size hD', hn'.lt⟩
      rcases s4 with ⟨d1, ⟨oa, ob, d2⟩, d3⟩ | ⟨T, f, oT, d1, d2, d3⟩
      · refine wpAny_pyNext_zip_item (s := { s with heap := h', toks := tk }) D d1 s1 d2 s2 s3 IL1 IL2 hxx hyy ?_
        intro h₂ a1 a2 a3 a4 a5 a6 a7
        refine next h₂ h'.objs.size ⟨a7 _ _ D.TIz D.TITO D.TIi1 D.TIi2 s1, a3, a4, .inr ⟨_, false, _, a1, a5, Nat.ne_of_gt (Heap.lt_size d1), Nat.ne_of_gt (by obtain ⟨_, e, _⟩ := s2; exact Heap.lt_size e), Nat.ne_of_gt (by obtain ⟨_, e, _⟩ := s3; exact Heap.lt_size e)⟩⟩ (fun T f e => ?_) a5 (Heap.get?_none_of_le (Nat.le_refl _)) a7
        have q3 : T = h'.objs.size := zipx_inj e a1
        rw [q3]
        exact ⟨Nat.ne_of_gt hbig.1, Nat.ne_of_gt hbig.2⟩
      · refine zo_item (s := { s with heap := h', toks := tk }) D d1 d2 s1 s2 s3 IL1 IL2 hxx hyy ?_
        intro h₂ a1 a3 a4 a5 a7
        refine next h₂ h'.objs.size ⟨a7 _ _ D.TIz D.TIi1 D.TIi2 s1, a3, a4, .inr ⟨T, true, oT, a1, a7 _ _ d3.1 d3.2.1 d3.2.2 d2, d3⟩⟩ (fun T' f' e => ?_) a5 (Heap.get?_none_of_le (Nat.le_refl _)) (fun c o c1 c2 c3 c4 e => a7 c o c1 c3 c4 e)
        rw [zipx_inj e a1]
        exact hTn T f d1
    · obtain rfl : i = n := Nat.le_antisymm hi (Nat.not_lt.mp hlt)
      obtain ⟨s1, s2, s3, s4⟩ := hst'
      revert s1 s2 s3 s4
      intro s1 s2 s3 s4
      rcases s4 with ⟨d1, _, d3⟩ | ⟨T, f, oT, d1, d2, d3⟩
      · exact absurd hnp (by rw [d3]; exact Nat.lt_irrefl _)
      · have hxl := IntsAre.length hx1
        refine zo_end (s := { s with heap := h', toks := tk }) hh D d1 d2 s1 s2 IL1 (by rw [Array.getElem?_eq_none]; rw [List.size_toArray]; omega) fun h₂ a7 => ?_
        have wz : ∀ b, b = z ∨ b = i1 → L ≠ b ∧ h₀.get? b = none ∧ ∀ p ∈ news, p.1 ≠ b := fun b hb => new b (hb.imp id fun h => .inr (.inl h))
        have kz : ∀ b o, b ≠ z → b ≠ i1 → h'.get? b = some o → h₂.get? b = some o := fun b o q1 q2 e => a7 b o q1 q2 e
        have F₂ : Fr h₀ L h₂ m := ⟨hoL.ns (kz _ _ (wz z (.inl rfl)).1 (wz i1 (.inr rfl)).1 hL'), fun b o e => kz b o (fun q => by rw [q, (wz z (.inl rfl)).2.1] at e; cases e) (fun q => by rw [q, (wz i1 (.inr rfl)).2.1] at e; cases e) (hk' b o e), habL⟩
        have N₂ : News h₀ L h₂ ((s.heap.objs.size, lst vs) :: news) := fun p hp => by
          rcases List.mem_cons.mp hp with rfl | hp
          · exact ⟨kz _ _ (nD zlt.1).symm (nD zlt.2.2.1).symm hD', hDL, hD₀⟩
          · exact ⟨kz _ _ ((wz z (.inl rfl)).2.2 p hp) ((wz i1 (.inr rfl)).2.2 p hp) (N' p hp).1, (N p hp).2⟩
        have offC : ∀ p ∈ (s.heap.objs.size, lst vs) :: news, p.1 ≠ H2.objs.size := fun p hp => by
          rcases List.mem_cons.mp hp with rfl | hp
          · exact hDC
          · exact (N' p hp).2.1
        refine fin_none (σ := Unit) (c := ()) (Led := fun _ => news) F₂ N₂ (hn'.at' fun o e => kz _ o (nC zlt.1).symm (nC zlt.2.2.1).symm e) hCL hC₀ offC ?_
        intro h₃ tk₃ F₃ N₃
        refine fin _ _ _ _ ?_ F₃ N₃ fun p hp => (below _ (Heap.lt_size (N p hp).1)).2
        rw [List.take_of_length_le (by rw [List.length_zipWith]; omega)] at hP
        exact hP
  exact codeAny_compStart_list (loop _ rfl) (wpAny_pyIter_zip (old _ _ hz) (loop _ rfl))
end
end Mine
end

section
theorem Mine.top_off_LO : True := by
  w_top off
  trivial
local macro_rules | `(tactic| omega) => `(tactic| first | lia | omega (config := {}))
open PySem PySem.W PyProof.Rows PySem.Spec PySem.Calls
namespace Mine
open PyProof.Rows.LCg (lst lst_snoc NsObj ns_obj fr_but news_but)
theorem k_filledLO : (hd.heap_39 = hd.heap_39) ∧ (PySem.Challenge.rw_re0068_01 = PySem.Challenge.rw_re0068_01) := by
  k_fill
  exact ⟨rfl, rfl⟩
theorem rows_two {fx : List (Addr × Obj)} {lv : List Value} {r0 r1 : List Int} (h : RowsIn fx lv [r0, r1]) : ∃ a0 a1 u0 u1 n0 n1, lv = [.ref a0, .ref a1] ∧ (a0, W.listOf (List.toArray u0) n0) ∈ fx ∧ IntsAre u0 r0 ∧ (a1, W.listOf (List.toArray u1) n1) ∈ fx ∧ IntsAre u1 r1 := by
  cases h with
  | cons h1 h2 h => cases h with
    | cons h3 h4 h => cases h; exact ⟨_, _, _, _, _, _, rfl, h1, h2, h3, h4⟩
noncomputable def rowOk (n : Nat) (r : List Int) : Prop := r.length = n ∧ ∀ e ∈ r, 0 ≤ e ∧ e ≤ n
theorem max_row {n : Nat} {a b : List Int} (ha : rowOk n a) (hb : rowOk n b) : rowOk n (List.zipWith max a b) := by
  refine ⟨by rw [List.length_zipWith, ha.1, hb.1]; exact Nat.min_self n, fun e he => ?_⟩
  obtain ⟨i, hi⟩ := List.getElem?_of_mem he
  rw [List.getElem?_zipWith] at hi
  cases qa : a[i]? with
  | none => rw [qa] at hi; cases hi
  | some x =>
    cases qb : b[i]? with
    | none => rw [qa, qb] at hi; cases hi
    | some y =>
      rw [qa, qb] at hi
      have hx := ha.2 x (List.mem_of_getElem? qa)
      have hy := hb.2 y (List.mem_of_getElem? qb)
      have : max x y = e := Option.some.inj hi
      omega
local macro_rules | `(tactic| walk_at $k:str) => if ["execs cons", "call ref", "call type:zip", "call builtin:max", "pyIter ref", "eval ListComp"].contains k.getString then `(tactic| (refine hold_of ?_)) else Lean.Macro.throwUnsupported
local macro_rules | `(tactic| walk_at "eval Name") => `(tactic| (k_here; (with_reducible show wpAny _ _ (eval (Expr.Name _ _) (compEnvC _ _ _ _)) _ _ _); k_dflt (refine ldVarK (Fr.ns (by k_asm)) (by assumption) ?_)))
local macro_rules | `(tactic| walk_at "eval Name") => `(tactic| (k_here; (with_reducible show wpAny _ _ (eval (Expr.Name _ _) (envOfC _ _ _ _ _)) _ _ _); k_dflt (refine' nameX_L ?F ?v ?_ ?a ?b; (case F => k_asm); (case a => rfl); (case b => rfl); (case v => assumption))))
theorem st12 {prog : Program} {w : World} {s : Shared} {p : Program} {loose : List Str} {mean : ExcName → Option Value} {mg mb : Str → Option Value} {Q : Flow → Shared → Prop} {E : Value → Shared → Prop}
    {h₀ : Heap} {L fa : Addr} {cd : Value} {o1 o2 o3 o4 o5 o6 : Obj} {ps : Array Value} {m : Str → Option Value} {n : Nat} {fx : List (Addr × Obj)} {la : Addr} {lv : List Value} {ln : Nat} {r0 r1 : List Int}
    (X : (hd.heap_39 w.params).In h₀) (T : Top p loose mean mg mb h₀) (hn : n ≤ 4) (hn0 : 0 < n)
    (l0 : @LT.lt Nat _ 86 L) (hfx : FxOff L fx) (hm : m (Str.ofString "lower") = some (.ref la))
    (hla : (la, W.listOf lv.toArray ln) ∈ fx) (hlv : RowsIn fx lv [r0, r1]) (hr0 : rowOk n r0) (hr1 : rowOk n r1)
    (F : Fr h₀ L s.heap m) (N : News h₀ L s.heap (lawLed L o1 o2 o3 o4 o5 o6 ps ++ fx))
    (ret : ∀ h' tk g fx' a av an, Fr h₀ L h' (fun z => if z = Str.ofString "least" then some (.ref a) else m z) → News h₀ L h' (lawLed L o1 o2 o3 o4 o5 o6 ps ++ fx') → FxOff L fx' → (∀ p ∈ fx, p ∈ fx') → (a, W.listOf av.toArray an) ∈ fx' → IntsAre av (grownF (List.zipWith max r0 r1)) →
      (AllBare s.gens → AllBare g) → wpAny (model prog w) (AM 1) (execs (lawBody.drop 12) (lawEnv L fa cd)) Q E { s with heap := h', toks := tk, gens := g }) :
    wpAny (model prog w) (AM 1) (execs (lawBody.drop 11) (lawEnv L fa cd)) Q E s := by
  revert prog w s p loose mean mg mb Q E h₀ L fa cd o1 o2 o3 o4 o5 o6 ps m n fx la lv ln r0 r1 X T hn hn0 l0 hfx hm hla hlv hr0 hr1 F N ret
  show ∀ prog w s p loose mean mg mb Q E h₀ L fa cd o1 o2 o3 o4 o5 o6 ps m n fx la lv ln r0 r1 X T hn hn0 l0 hfx hm hla hlv hr0 hr1 F N ret, _
  intro prog w s p loose mean mg mb Q E h₀ L fa cd o1 o2 o3 o4 o5 o6 ps m n fx la lv ln r0 r1
  intros X T hn hn0 l0 hfx hm hla hlv hr0 hr1 F N ret
  obtain ⟨a0, a1, u0, u1, n0, n1, hr1, ha0, hu0, ha1, hu1⟩ := rows_two hlv
  revert a0 a1 u0 u1 n0 n1 hr1 ha0 hu0 ha1 hu1
  intro a0 a1 u0 u1 n0 n1 hr1 ha0 hu0 ha1 hu1
  obtain rfl := hr1
  have N1 := news_cons N (List.mem_append_right _ hla)
  dsimp only [lawBody, the, List.drop]
  dsimp only [lawLed, List.cons_append, List.nil_append] at N1
  refine wpAny_execs_cons ?_
  try dsimp only
  k_steps
  refine hold_in ?_
  k_dflt (refine lc_eval (by with_unfolding_all rfl) rfl (by decide) ?_)
  k_steps
  refine hold_in ?_
  refine zip_rows (s := { s with toks := _ }) F (lst_here N (List.mem_append_right _ ha0)) (lst_here N (List.mem_append_right _ ha1)) ?_
  intro h1 z TI TO i1 i2 D Z F1 k1 g1 g2 g3 g4 _
  have N2 : News h₀ L h1 (lawLed L o1 o2 o3 o4 o5 o6 ps ++ fx) := news_kp N k1
  have hno : ∀ a, a = z ∨ a = TO ∨ a = i1 ∨ a = i2 → s.heap.get? a = none := fun a h => by
    rcases h with rfl | rfl | rfl | rfl
    · exact Heap.get?_none_of_le g1
    · exact Heap.get?_none_of_le g2
    · exact Heap.get?_none_of_le g3
    · exact Heap.get?_none_of_le g4
  have hnew : ∀ a, a = z ∨ a = TO ∨ a = i1 ∨ a = i2 → L ≠ a ∧ h₀.get? a = none ∧ ∀ p ∈ lawLed L o1 o2 o3 o4 o5 o6 ps ++ fx, p.1 ≠ a := fun a h =>
    ⟨(new_in F (hno a h)).1.symm, (new_in F (hno a h)).2, new_ne N (hno a h)⟩
  have Z2 : ZS z TI TO i1 i2 a0 a1 0 h1 := ⟨Z.2.1, Z.2.2.2.1, Z.2.2.2.2.1, .inl ⟨Z.1, Z.2.2.1, rfl⟩⟩
  clear F N N1 g1 g2 g3 g4 k1 hno
  (try dsimp only)
  k_steps
  refine hold_in (zip_comp (lawLed L o1 o2 o3 o4 o5 o6 ps ++ fx) rfl D Z.1 Z2 hu0 hu1 hr0.1 hr1.1 hn0 (by omega) (List.mem_append_right _ ha0) (List.mem_append_right _ ha1) (by decide) rfl rfl F1 N2 hnew ?_ ?_)
  · clear F1 N2 Z Z2 D hnew
    intro a b ta tb T C h tk m₂ hm F' N'
    dsimp only [lawLed, List.cons_append, List.nil_append] at N'
    k_steps
    refine hold_in ?_
    refine max_pair rfl (N' _ (.head _)).1 ?_
    intro t h2 tk2 k2
    exact ⟨t, h2, tk2, rfl, rfl, k2⟩
  · clear Z Z2 D hnew F1 N2
    intro Dd h tk ys hys F' N' off
    (try dsimp only)
    have hmx := max_row hr0 hr1
    have hld : h.IsList Dd ys.toArray := ⟨_, (N' _ (.head _)).1, rfl, _, rfl⟩
    have N3 : News h₀ L h (lawLed L o1 o2 o3 o4 o5 o6 ps ++ fx) := fun p hp => N' p (.tail _ hp)
    clear N' off
    k_steps
    refine hold_in ?_
    refine am_weak (n := 4) (grown_spec hld hys (by rw [hmx.1]; omega) (fun e he => by rw [hmx.1]; exact hmx.2 e he) (X.keeps F'.keep) (T.keeps F'.keep) ?_) rfl (by decide) (by decide)
    intro h3 tk3 g3 r vs nn kp hg hr hget hint
    have F3 := fr_kp F' kp
    have hrn := new_ne N3 hr
    have N4 : News h₀ L h3 (lawLed L o1 o2 o3 o4 o5 o6 ps ++ ((r, W.listOf vs.toArray nn) :: fx)) := fun p hp => by
      rcases List.mem_append.mp hp with hp | hp
      · exact news_kp N3 kp p (List.mem_append_left _ hp)
      · rcases List.mem_cons.mp hp with rfl | hp
        · exact ⟨hget, new_in F' hr⟩
        · exact news_kp N3 kp p (List.mem_append_right _ hp)
    have f2 : FxOff L ((r, W.listOf vs.toArray nn) :: fx) := fun p hp => by
      rcases List.mem_cons.mp hp with rfl | hp
      · exact off_law fun q hq => hrn q (List.mem_append_left fx hq)
      · exact hfx p hp
    have u1 : ∀ p ∈ fx, p ∈ (r, W.listOf vs.toArray nn) :: fx := fun p hp => .tail _ hp
    have u5 : (r, W.listOf vs.toArray nn) ∈ (r, W.listOf vs.toArray nn) :: fx := .head _
    generalize (r, W.listOf vs.toArray nn) :: fx = fy at *
    clear N3 F' kp hrn hld
    k_steps
    (rename Fr _ _ _ _ => lF'); (rename News _ _ _ _ => lN')
    refine hold_in ?_
    exact ret _ _ _ _ _ _ _ lF' lN' f2 u1 u5 hint hg
end Mine
end

section
theorem Mine.top_off_ZC : True := by
  w_top off
  trivial
local macro_rules | `(tactic| omega) => `(tactic| first | lia | omega (config := {}))
open PySem PySem.W PyProof.Rows PySem.Spec PySem.Calls
namespace Mine
open PyProof.Rows.LCg (lst lst_snoc NsObj ns_obj fr_but news_but)
/-- what a turn whose target is a cell leaves behind -/
noncomputable def VEnd {σ : Type} (h₀ : Heap) (C : Addr) (s : Shared) (own : List (Addr × Obj)) (Led : σ → List (Addr × Obj)) (P : σ → List Value → Prop) (ys : List Value) (s₂ : Shared) : Prop :=
  ∃ (c : σ) (h' : Heap) (tk : Nat) (g : Array GenState) (m' : Str → Option Value) (news' : List (Addr × Obj)), s₂ = { s with heap := h', toks := tk, gens := g } ∧ (AllBare s.gens → AllBare g) ∧ Fr h₀ C h' m' ∧ News h₀ C h' news' ∧
    (∀ p ∈ own, p ∈ news') ∧ (∀ p ∈ Led c, p ∈ news') ∧ (∀ p ∈ Led c, ∀ q ∈ own, p.1 ≠ q.1) ∧ P c ys
theorem v_end {σ : Type} {h₀ : Heap} {C : Addr} {s : Shared} {own : List (Addr × Obj)} {Led : σ → List (Addr × Obj)} {P : σ → List Value → Prop} {ys : List Value} {h' : Heap} {tk : Nat} {g : Array GenState} {m' : Str → Option Value} {news' : List (Addr × Obj)} (c : σ)
    (F : Fr h₀ C h' m') (N : News h₀ C h' news') (hg : AllBare s.gens → AllBare g) (ho : ∀ p ∈ own, p ∈ news') (hl : ∀ p ∈ Led c, p ∈ news') (hn : ∀ p ∈ Led c, ∀ q ∈ own, p.1 ≠ q.1) (hp : P c ys) :
    VEnd h₀ C s own Led P ys { s with heap := h', toks := tk, gens := g } := ⟨c, h', tk, g, m', news', rfl, hg, F, N, ho, hl, hn, hp⟩
section
variable {prog : Program} {w : World} {A : Around} {E : Value → Shared → Prop} {env : Env} {h₀ : Heap} {L : Addr} {m : Str → Option Value}
theorem blockV {σ : Type} {elt i0 : Expr} {x1 : Str} {p0 : Pos} {scope : Scope} {cl : List (Str × Addr)} {pos : Pos} {use : Option (Value → Sem Unit)} {Q : Value → Shared → Prop} {s : Shared}
    {ax : Addr} {items : Array Value} (Led : σ → List (Addr × Obj)) (P : Nat → σ → List Value → Prop) (c₀ : σ)
    (hh : A.handled = none) (hl : s.heap.IsList ax items) (hax : ∃ o, ∀ c, (ax, o) ∈ Led c) (hsz : items.size ≤ 1000)
    (hcell : scope.names.filter (fun y => y.2 == .cell) = [(x1, .cell)]) (hkind : scope.kind = .function) (hkf : ∀ c C, (compEnvC scope c C env).scope.kind = .function) (hx : ∀ c C, (compEnvC scope c C env).kindOf x1 = some .cell)
    (F : Fr h₀ L s.heap m) (N : News h₀ L s.heap (Led c₀)) (h0 : P 0 c₀ [])
    (turn : ∀ (c : σ) i v ys (m₂ : Str → Option Value) h tk g D C I oI oL ok, i < items.size → items[i]? = some v → P i c ys → (AllBare s.gens → AllBare g) → (∀ p ∈ Led c, ∀ q ∈ [(C + 1, ok), (D, lst ys), (I, oI), (L, oL)], p.1 ≠ q.1) →
      ok.data = .cell (some v) → Fr h₀ C h m₂ → News h₀ C h ((C + 1, ok) :: (Led c ++ [(D, lst ys), (I, oI), (L, oL)])) → (D ≠ C + 1 ∧ I ≠ C + 1 ∧ L ≠ C + 1) →
      wpAny (model prog w) A (eval elt (compEnvC scope ((x1, C + 1) :: cl) C env)) (fun y s₄ => VEnd h₀ C s [(C + 1, ok), (D, lst ys), (I, oI), (L, oL)] Led (P (i + 1)) (ys ++ [y]) s₄) (fun _ _ => False) { s with heap := h, toks := tk, gens := g })
    (hfin : ∀ (c : σ) ys D C (m' : Str → Option Value) h tk g, P items.size c ys → ys.length = items.size → (AllBare s.gens → AllBare g) → Fr h₀ L h m → News h₀ L h ((D, lst ys) :: Led c) → (∀ p ∈ Led c, p.1 ≠ D) → h.Ns C m' → C ≠ L → h₀.get? C = none → (∀ p ∈ (D, lst ys) :: Led c, p.1 ≠ C) →
      compPost (model prog w) A E use Q (.ref D) C (.ok .next) { s with heap := h, toks := tk, gens := g }) :
    wpAny (model prog w) A (pyIter (.ref ax)) (Blk prog w A E env elt i0 x1 p0 [] scope cl pos use Q) E s := by
  revert prog w A E env h₀ L m elt i0 x1 p0 scope cl pos use Q s ax items Led P hh hl hax hsz hcell hkind hkf hx F N h0 turn hfin
  revert σ c₀
  show ∀ σ c₀ prog w A E env h₀ L m elt i0 x1 p0 scope cl pos use Q s ax items Led P hh hl hax hsz hcell hkind hkf hx F N h0 turn hfin, _
  refine' no_implicit_lambda% (Mine.clS (P := ?P) ((?g : ∀ x0 x1, ?P x0 x1) (Mine.pkS ?P).1 (Mine.pkS ?P).2))
  intros σ c₀
  intro prog w A E env h₀ L m elt i0 x1 p0 scope cl pos use Q s ax items Led P
  intros hh hl hax hsz hcell hkind hkf hx F N h0 turn hfin
  obtain ⟨ol, hol, xu5⟩ := id hl
  revert ol hol xu5
  intro ol hol xu5
  have haxlt : ax < s.heap.objs.size := Heap.lt_size hol
  have hne : ax ≠ s.heap.objs.size := Nat.ne_of_lt haxlt
  refine wpAny_pyIter_list hl ?_
  have W := Walks.list (prog := prog) (w := w) (A := A) hh s.heap.objs.size ax hne items
  obtain ⟨s₁, hs₁, hIdef⟩ : ∃ s₁ : Shared, s₁ = { s with heap := s.heap.push { cls := .type "list_iterator", data := .fields #[.ref ax, .int 0 0] } } ∧ s₁.heap.objs.size = s.heap.objs.size + 1 := ⟨_, rfl, Heap.size_push ..⟩
  revert s₁ hs₁ hIdef
  intro s₁ hs₁ hIdef
  have up : ∀ b o, s.heap.get? b = some o → s₁.heap.get? b = some o := fun b o e => by rw [hs₁]; exact Heap.get?_push_of_some _ e
  have hst : s₁.heap.IsListIter s.heap.objs.size ax 0 ∧ s₁.heap.IsList ax items := by
    rw [hs₁]; exact ⟨⟨_, Heap.get?_push_size _ rfl, rfl, rfl⟩, hl.at fun o e => Heap.get?_push_of_some _ e⟩
  have F₁ : Fr h₀ L s₁.heap m := by rw [hs₁]; exact F.push _
  have N₁ : News h₀ L s₁.heap (Led c₀) := fun p hp => ⟨up _ _ (N p hp).1, (N p hp).2⟩
  have hIL : L ≠ s.heap.objs.size := Nat.ne_of_lt F.ns.lt
  have hI₀ : h₀.get? s.heap.objs.size = none := next_is_new F
  have offI : ∀ p ∈ Led c₀, p.1 ≠ s.heap.objs.size := fun p hp => Nat.ne_of_lt (Heap.lt_size (N p hp).1)
  have hIlt : s.heap.objs.size < s₁.heap.objs.size := by rw [hIdef]; exact Nat.lt_succ_self _
  have haxlt1 : ax < s₁.heap.objs.size := Nat.lt_trans haxlt hIlt
  rw [← hs₁]
  generalize hIe : s.heap.objs.size = I at *
  refine wpAny_newObj_type (newCompEnv ?_)
  intro h₁ hns₁ hk₁ hc₁ hcf₁
  dsimp only at hns₁ hk₁ hc₁ hcf₁ ⊢
  generalize hH2 : s₁.heap.push { cls := .type "list", dict := none, data := .seq ([] : List Value).toArray } = H2 at hns₁ hk₁ hc₁ hcf₁ ⊢
  generalize hDe : s₁.heap.objs.size = D at *
  have hC : H2.objs.size = D + 1 := by rw [← hH2, Heap.size_push, hDe]
  rw [hC] at hns₁ hc₁ hcf₁ ⊢
  have hDlt : D < D + 1 := Nat.lt_succ_self _
  have hcell₁ := hc₁ x1 0 hcell
  have hcf := hcf₁ x1 hcell
  rw [hcf]
  have old : ∀ b o, s₁.heap.get? b = some o → h₁.get? b = some o := fun b o e => hk₁ b o (hH2 ▸ Heap.get?_push_of_some _ e)
  have hacc : h₁.get? D = some (lst []) := hk₁ _ _ (by rw [← hH2, ← hDe]; exact Heap.get?_push_size _ rfl)
  have lo : ∀ {b : Addr} {o : Obj}, s₁.heap.get? b = some o → b < D := fun e => by have := Heap.lt_size e; rw [hDe] at this; exact this
  have neD : ∀ {b : Addr} {o : Obj}, s₁.heap.get? b = some o → b ≠ D ∧ b ≠ D + 1 ∧ b ≠ D + 1 + 1 := fun e =>
    ⟨Nat.ne_of_lt (lo e), Nat.ne_of_lt (Nat.lt_succ_of_lt (lo e)), Nat.ne_of_lt (Nat.lt_succ_of_lt (Nat.lt_succ_of_lt (lo e)))⟩
  obtain ⟨oL, heL, hoL⟩ := ns_obj F₁.ns
  revert oL heL hoL
  intro oL heL hoL
  have habL : h₀.objs.size ≤ L := F.above
  have hLD := neD heL
  have hL₀ : h₀.get? L = none := Heap.get?_none_of_le habL
  have hab : ∀ k, D ≤ k → h₀.objs.size ≤ k := fun k hk => Nat.le_trans habL (Nat.le_trans (Nat.le_of_lt (lo heL)) hk)
  have hD₀ : h₀.get? D = none := Heap.get?_none_of_le (hab _ (Nat.le_refl _))
  have hC₀ : h₀.get? (D + 1) = none := Heap.get?_none_of_le (hab _ (Nat.le_succ _))
  have hk₀ : h₀.get? (D + 1 + 1) = none := Heap.get?_none_of_le (hab _ (Nat.le_succ_of_le (Nat.le_succ _)))
  obtain ⟨oi₀, hoi₀, xu6⟩ := id hst.1
  revert oi₀ hoi₀ xu6
  intro oi₀ hoi₀ xu6
  have hID := neD hoi₀
  obtain ⟨ok₀, hok₀, hokd₀⟩ := id hcell₁
  revert ok₀ hok₀ hokd₀
  intro ok₀ hok₀ hokd₀
  have hDk : D ≠ D + 1 + 1 := Nat.ne_of_lt (Nat.lt_succ_of_lt hDlt)
  have hDC : D ≠ D + 1 := Nat.ne_of_lt hDlt
  have hkC : D + 1 + 1 ≠ D + 1 := Nat.succ_ne_self _
  have hkf' : D + 1 + 1 ∉ [I, ax] := fun hm => by
    rcases List.mem_cons.mp hm with e | hm
    · exact hID.2.2 e.symm
    · have := List.mem_singleton.mp hm
      rw [← this] at haxlt1
      exact Nat.lt_irrefl _ (Nat.lt_of_succ_lt (Nat.lt_of_succ_lt haxlt1))
  have hDf : D ∉ [I, ax] := fun hm => by
    rcases List.mem_cons.mp hm with e | hm
    · exact hID.1 e.symm
    · exact absurd haxlt1 (by rw [List.mem_singleton.mp hm]; exact Nat.lt_irrefl _)
  have hst₁ : h₁.IsListIter I ax 0 ∧ h₁.IsList ax items := W.frame _ _ _ hst fun b _ o e => old b o e
  have loop : ∀ s₃ : Shared, s₃ = { s with heap := h₁, toks := s₁.toks } →
      codeAny (model prog w) A (.compLoop (.ListComp elt [⟨.Name x1 p0, i0, [], 0⟩] scope pos) 0 (.ref I) (.ref D) (compEnvC scope ((x1, D + 1 + 1) :: cl) (D + 1) env))
        (compPost (model prog w) A E use Q (.ref D) (D + 1)) s₃ := by
    intro s₃ hr1
    obtain rfl := hr1
    refine codeAny_compLoop_tests
      (fun k s' => ∃ (c : σ) (h' : Heap) (tk : Nat) (g : Array GenState) (i : Nat) (ys : List Value) (m' : Str → Option Value) (ok : Obj) (vk : Option Value), s' = { s with heap := h', toks := tk, gens := g } ∧ (AllBare s.gens → AllBare g) ∧ i ≤ items.size ∧ k = items.size + 1 - i ∧ (h'.IsListIter I ax i ∧ h'.IsList ax items) ∧
        (∀ b o, h₀.get? b = some o → h'.get? b = some o) ∧ h'.Ns (D + 1) m' ∧ h'.get? D = some (lst ys) ∧ h'.get? (D + 1 + 1) = some ok ∧ ok.data = .cell vk ∧ h'.get? L = some oL ∧ News h₀ (D + 1) h' (Led c) ∧
        (∀ p ∈ Led c, p.1 ≠ D ∧ p.1 ≠ D + 1 + 1 ∧ p.1 ≠ I ∧ p.1 ≠ L) ∧ ys.length = i ∧ P i c ys) ?_ (items.size + 1)
      ⟨c₀, h₁, _, s.gens, 0, [], _, ok₀, none, rfl, id, Nat.zero_le _, rfl, hst₁, fun b o e => old b o (F₁.keep b o e), hns₁, hacc, hok₀, hokd₀, old _ _ heL, fun p hp => ⟨old _ _ (N₁ p hp).1, (neD (N₁ p hp).1).2.1, (N p hp).2.2⟩,
        fun p hp => ⟨(neD (N₁ p hp).1).1, (neD (N₁ p hp).1).2.2, offI p hp, (N p hp).2.1⟩, rfl, h0⟩
    intro k s' xo2
    obtain ⟨c, h', tk, g, i, ys, m', ok, vk, hr7, hg, hi, hr8, hst', hk', hn', hD', hk₂', hkd', hL', N', off', hyl, hP⟩ := (xo2)
    revert c h' tk g i ys m' ok vk hr7 hg hi hr8 hst' hk' hn' hD' hk₂' hkd' hL' N' off' hyl hP
    intro c h' tk g i ys m' ok vk hr7 hg hi hr8 hst' hk' hn' hD' hk₂' hkd' hL' N' off' hyl hP
    obtain rfl := hr7
    obtain rfl := hr8
    by_cases hlt : i < items.size
    · refine W.item i _ _ _ hlt hst' ?_
      intro v h₂ tk₂ hPv hst₂ hk₂
      have k2 : ∀ b o, b ≠ I → h'.get? b = some o → h₂.get? b = some o := fun b o hb e => hk₂ b o (by simpa using hb) e
      refine wpAny_assign_Name (wpAny_storeName_cell (hkf _ _) (hx _ _) (c := D + 1 + 1) (by simp [compEnvC]) ⟨ok, k2 _ _ (Ne.symm hID.2.2) hk₂', hkd'⟩ ?_)
      intro h₃
      intros hv₃
      obtain ⟨ok₃, hok₃, hokd₃⟩ := hv₃
      revert ok₃ hok₃ hokd₃
      intro ok₃ hok₃ hokd₃ hs₃
      have k3 : ∀ b o, b ≠ D + 1 + 1 → h₂.get? b = some o → h₃.get? b = some o := fun b o hb e => (hs₃.2 b hb).trans e
      have hst₃ : h₃.IsListIter I ax (i + 1) ∧ h₃.IsList ax items := W.frame _ _ _ hst₂ fun b hb o e => k3 b o (fun q => hkf' (by have q' : b = D + 1 + 1 := q; rw [← q']; exact hb)) e
      obtain ⟨oI, heI, xu9⟩ := id hst₃.1
      revert oI heI xu9
      intro oI heI xu9
      have F₃ : Fr h₀ (D + 1) h₃ _ := ⟨hn'.at' fun o e => k3 _ o (Ne.symm hkC) (k2 _ o (Ne.symm hID.2.1) e), fun b o e => k3 b o (fun q => by rw [q, hk₀] at e; cases e) (k2 b o (fun q => by rw [q, hI₀] at e; cases e) (hk' b o e)), hab _ (Nat.le_succ _)⟩
      have N₃ : News h₀ (D + 1) h₃ ((D + 1 + 1, ok₃) :: (Led c ++ [(D, lst ys), (I, oI), (L, oL)])) := fun p hp => by
        rcases List.mem_cons.mp hp with rfl | hp
        · exact ⟨hok₃, hkC, hk₀⟩
        rcases List.mem_append.mp hp with hp | hp
        · exact ⟨k3 _ _ (off' p hp).2.1 (k2 _ _ (off' p hp).2.2.1 (N' p hp).1), (N' p hp).2⟩
        rcases List.mem_cons.mp hp with rfl | hp
        · exact ⟨k3 _ _ hDk (k2 _ _ (Ne.symm hID.1) hD'), hDC, hD₀⟩
        rcases List.mem_cons.mp hp with rfl | hp
        · exact ⟨heI, hID.2.1, hI₀⟩
        · rw [List.mem_singleton.mp hp]
          exact ⟨k3 _ _ hLD.2.2 (k2 _ _ hIL hL'), hLD.2.1, hL₀⟩
      refine wpAny_tests_nil ?_
      rw [if_pos rfl]
      refine wpAny_mono (turn c i v ys _ h₃ _ g D (D + 1) I oI oL ok₃ hlt hPv hP hg ?_ hokd₃ F₃ N₃ ⟨hDk, hID.2.2, hLD.2.2⟩) ?_ fun _ _ q => q.elim
      · intro p hp q hq
        rcases List.mem_cons.mp hq with rfl | hq
        · exact (off' p hp).2.1
        rcases List.mem_cons.mp hq with rfl | hq
        · exact (off' p hp).1
        rcases List.mem_cons.mp hq with rfl | hq
        · exact (off' p hp).2.2.1
        · rw [List.mem_singleton.mp hq]; exact (off' p hp).2.2.2
      · intro y s₄
        intros hq
        obtain ⟨c', h₄, tk₄, g₄, m₄, news₄, hr10, hg₄, F₄, N₄, ho₄, hl₄, hn₄, hP₄⟩ := hq
        revert c' h₄ tk₄ g₄ m₄ news₄ hr10 hg₄ F₄ N₄ ho₄ hl₄ hn₄ hP₄
        intro c' h₄ tk₄ g₄ m₄ news₄ hr10 hg₄ F₄ N₄ ho₄ hl₄ hn₄ hP₄
        obtain rfl := hr10
        have z0 := N₄ _ (ho₄ _ (.head _))
        have z1 := N₄ _ (ho₄ _ (.tail _ (.head _)))
        have z2 := N₄ _ (ho₄ _ (.tail _ (.tail _ (.head _))))
        have z3 := N₄ _ (ho₄ _ (.tail _ (.tail _ (.tail _ (.head _)))))
        refine append_at (hsz := by show ys.toArray.size ≤ sizeLine; rw [List.size_toArray, hyl, sizeLine_eq]; omega) z1.1 fun h₅ hs₅ hD₅ => ?_
        have k5 : ∀ b o, b ≠ D → h₄.get? b = some o → h₅.get? b = some o := fun b o hb e => (hs₅.2 b hb).trans e
        have st₄ : h₄.IsListIter I ax (i + 1) ∧ h₄.IsList ax items := by
          refine W.frame _ _ _ hst₃ ?_
          intro b hb o e
          rcases List.mem_cons.mp hb with rfl | hb
          · rw [heI] at e; cases e; exact z2.1
          · rw [List.mem_singleton.mp hb] at e ⊢
            obtain ⟨o₀, ho₀⟩ := hax
            revert o₀ ho₀
            intro o₀ ho₀
            have : o₀ = o := by have := (N₃ _ (.tail _ (List.mem_append_left _ (ho₀ c)))).1; rw [e] at this; exact (Option.some.inj this).symm
            exact this ▸ (N₄ _ (hl₄ _ (ho₀ c'))).1
        refine ⟨items.size + 1 - (i + 1), by omega, c', h₅, _, g₄, i + 1, ys ++ [y], m₄, ok₃, some v, rfl, hg₄, hlt, rfl, W.frame _ _ _ st₄ fun b hb o e => k5 b o (fun q => hDf (q ▸ hb)) e,
          fun b o e => k5 b o (fun q => by rw [q, hD₀] at e; cases e) (F₄.keep b o e), F₄.ns.at' fun o e => k5 _ o (Ne.symm hDC) e, hD₅.trans (congrArg some (lst_snoc ys y)), k5 _ _ (Ne.symm hDk) z0.1, hokd₃, k5 _ _ hLD.1 z3.1,
          fun p hp => ⟨k5 _ _ (hn₄ p hp _ (.tail _ (.head _))) (N₄ p (hl₄ p hp)).1, (N₄ p (hl₄ p hp)).2⟩,
          fun p hp => ⟨hn₄ p hp _ (.tail _ (.head _)), hn₄ p hp _ (.head _), hn₄ p hp _ (.tail _ (.tail _ (.head _))), hn₄ p hp _ (.tail _ (.tail _ (.tail _ (.head _))))⟩, by rw [List.length_append, hyl]; rfl, hP₄⟩
    · obtain rfl : i = items.size := Nat.le_antisymm hi (Nat.not_lt.mp hlt)
      refine W.done _ _ _ hst' ?_
      intro h₂ tk₂ hk₂
      have k2 : ∀ b o, b ≠ I → h'.get? b = some o → h₂.get? b = some o := fun b o hb e => hk₂ b o (by simpa using hb) e
      refine hfin c ys D (D + 1) m' h₂ tk₂ g hP hyl hg ⟨hoL.ns (k2 _ _ hIL hL'), fun b o e => k2 b o (fun q => by rw [q, hI₀] at e; cases e) (hk' b o e), habL⟩ ?_ (fun p hp => (off' p hp).1) (hn'.at' fun o e => k2 _ o (Ne.symm hID.2.1) e) (Ne.symm hLD.2.1) hC₀ ?_
      · intro p hp
        rcases List.mem_cons.mp hp with rfl | hp
        · exact ⟨k2 _ _ (Ne.symm hID.1) hD', Ne.symm hLD.1, hD₀⟩
        · exact ⟨k2 _ _ (off' p hp).2.2.1 (N' p hp).1, (off' p hp).2.2.2, (N' p hp).2.2⟩
      · intro p hp
        rcases List.mem_cons.mp hp with rfl | hp
        · exact hDC
        · exact (N' p hp).2.1
  have fin := codeAny_compStart_list (loop _ rfl) (W.self 0 _ _ _ hst₁ (loop _ rfl))
  rw [hs₁]
  rw [hs₁] at fin
  exact fin
end
end Mine
end

section
theorem Mine.top_off_LP : True := by
  w_top off
  trivial
local macro_rules | `(tactic| walk_at "idle") => `(tactic| skip)
local macro_rules | `(tactic| omega) => `(tactic| first | lia | omega (config := {}))
open PySem PySem.W PyProof.Rows PySem.Spec PySem.Calls
namespace Mine
open PyProof.Rows.LCg (lst lst_snoc NsObj ns_obj fr_but news_but)
theorem k_filledLP : (hd.heap_39 = hd.heap_39) ∧ (PySem.Challenge.rw_re0068_01 = PySem.Challenge.rw_re0068_01) := by
  k_fill
  exact ⟨rfl, rfl⟩
theorem filt_step {txs : List Str} {f : Str → Bool} {i : Nat} {t : Str} (ht : txs[i]? = some t) : (txs.take (i + 1)).filter f = (txs.take i).filter f ++ (if f t = true then [t] else []) := by
  rw [List.take_add_one, ht, List.filter_append]
  congr 1
  show List.filter f [t] = _
  rw [List.filter_cons]
  split <;> rfl
local macro_rules | `(tactic| walk_at $k:str) => if ["execs cons", "call ref", "pyIter ref", "eval ListComp", "exec Assign cons ListComp"].contains k.getString then `(tactic| (refine hold_of ?_)) else Lean.Macro.throwUnsupported
local macro_rules | `(tactic| walk_at "eval Name") => `(tactic| (k_here; (with_reducible show wpAny _ _ (eval (Expr.Name _ _) (compEnvC _ _ _ _)) _ _ _); k_dflt (refine ldVarK (Fr.ns (by k_asm)) (by assumption) ?_)))
local macro_rules | `(tactic| walk_at "eval Name") => `(tactic| (k_here; (with_reducible show wpAny _ _ (eval (Expr.Name _ _) (envOfC _ _ _ _ _)) _ _ _); k_dflt (refine' nameX_L ?F ?v ?_ ?a ?b; (case F => k_asm); (case a => rfl); (case b => rfl); (case v => assumption))))
theorem st13 {prog : Program} {w : World} {s : Shared} {p : Program} {loose : List Str} {mean : ExcName → Option Value} {mg mb : Str → Option Value} {Q : Flow → Shared → Prop} {E : Value → Shared → Prop}
    {h₀ : Heap} {L fa : Addr} {cd : Value} {o1 o2 o3 o4 o5 o6 : Obj} {ps : Array Value} {m : Str → Option Value} {o n : Nat} {fx : List (Addr × Obj)} {la ga na wa : Addr} {lv gv nv wv : List Value} {ln gn nn wn : Nat} {r0 r1 r2 : List Int} {txs : List Str}
    (X : (hd.heap_39 w.params).In h₀) (T : Top p loose mean mg mb h₀) (hn : n ≤ 4)
    (l0 : @LT.lt Nat _ 86 L) (d1 : o1.data = .cell (some (.ref wa))) (d5 : o5.data = .cell (some (.ref na))) (hfx : FxOff L fx) (hm1 : m (Str.ofString "lower") = some (.ref la)) (hm2 : m (Str.ofString "least") = some (.ref ga))
    (hla : (la, W.listOf lv.toArray ln) ∈ fx) (hlv : RowsIn fx lv [r0, r1]) (hga : (ga, W.listOf gv.toArray gn) ∈ fx) (hgv : IntsAre gv r2) (hr0 : rowOk n r0) (hr1 : rowOk n r1) (hr2 : rowOk n r2)
    (hna : (na, W.listOf nv.toArray nn) ∈ fx) (hnv : StrsAre nv (namesO o n)) (hwa : (wa, W.listOf wv.toArray wn) ∈ fx) (hwv : StrsAre wv txs) (htx : ∀ x ∈ txs, txOk x = true) (htl : txs.length ≤ 64)
    (F : Fr h₀ L s.heap m) (N : News h₀ L s.heap (lawLed L o1 o2 o3 o4 o5 o6 ps ++ fx))
    (ret : ∀ h' tk g fx' a av an, Fr h₀ L h' (fun z => if z = Str.ofString "told" then some (.ref a) else m z) → News h₀ L h' (lawLed L o1 o2 o3 o4 o5 o6 ps ++ fx') → FxOff L fx' → (∀ p ∈ fx, p ∈ fx') → (a, W.listOf av.toArray an) ∈ fx' →
      TextsIn fx' av ([r0, r1, r2].map fun e => txs.filter fun r => fitsF r e (namesO o n)) →
      (AllBare s.gens → AllBare g) → wpAny (model prog w) (AM 1) (execs (lawBody.drop 13) (lawEnv L fa cd)) Q E { s with heap := h', toks := tk, gens := g }) :
    wpAny (model prog w) (AM 1) (execs (lawBody.drop 12) (lawEnv L fa cd)) Q E s := by
  revert prog w s p loose mean mg mb Q E h₀ L fa cd o1 o2 o3 o4 o5 o6 ps m o n fx la ga na wa lv gv nv wv ln gn nn wn r0 r1 r2 txs X T hn l0 d1 d5 hfx hm1 hm2 hla hlv hga hgv hr0 hr1 hr2 hna hnv hwa hwv htx htl F N ret
  show ∀ prog w s p loose mean mg mb Q E h₀ L fa cd o1 o2 o3 o4 o5 o6 ps m o n fx la ga na wa lv gv nv wv ln gn nn wn r0 r1 r2 txs X T hn l0 d1 d5 hfx hm1 hm2 hla hlv hga hgv hr0 hr1 hr2 hna hnv hwa hwv htx htl F N ret, _
  intro prog w s p loose mean mg mb Q E h₀ L fa cd o1 o2 o3 o4 o5 o6 ps m o n fx la ga na wa lv gv nv wv ln gn nn wn r0 r1 r2 txs
  intros X T hn l0 d1 d5 hfx hm1 hm2 hla hlv hga hgv hr0 hr1 hr2 hna hnv hwa hwv htx htl F N ret
  obtain ⟨a0, a1, u0, u1, n0, n1, hr1, ha0, hu0, ha1, hu1⟩ := rows_two hlv
  revert a0 a1 u0 u1 n0 n1 hr1 ha0 hu0 ha1 hu1
  intro a0 a1 u0 u1 n0 n1 hr1 ha0 hu0 ha1 hu1
  obtain rfl := hr1
  have hall : RowsIn fx [.ref a0, .ref a1, .ref ga] [r0, r1, r2] := .cons ha0 hu0 (.cons ha1 hu1 (.cons hga hgv .nil))
  have hrr : ∀ e ∈ [r0, r1, r2], rowOk n e := List.forall_mem_cons.mpr ⟨hr0, List.forall_mem_cons.mpr ⟨hr1, List.forall_mem_cons.mpr ⟨hr2, List.forall_mem_nil _⟩⟩⟩
  have N1 := news_cons N (List.mem_append_right _ hla)
  dsimp only [lawBody, the, List.drop]
  dsimp only [lawLed, List.cons_append, List.nil_append] at N1
  refine wpAny_execs_cons ?_
  try dsimp only
  k_steps
  refine hold_in ?_
  k_dflt (refine lc_assign (by with_unfolding_all rfl) (by with_unfolding_all rfl) rfl (by decide) ?_)
  k_steps
  (rename Fr _ _ _ _ => lF'); (rename News _ _ _ _ => lN')
  rename_i Y h1 l1 Z h2 l2
  have zZ := lN' (Z, _) (.head _)
  have hZo : LawOff L Z := by refine ⟨?_, ?_, ?_, ?_, ?_, ?_, ?_⟩ <;> omega
  have N2 : News h₀ L h2 (lawLed L o1 o2 o3 o4 o5 o6 ps ++ ((Z, W.listOf #[Value.ref a0, Value.ref a1, Value.ref ga] 0) :: (([] : List (Addr × Obj)) ++ fx))) := fun p hp => by
    have lN2 : News h₀ L h2 ((Z, W.listOf #[Value.ref a0, Value.ref a1, Value.ref ga] 0) :: _ :: _ :: (lawLed L o1 o2 o3 o4 o5 o6 ps ++ fx)) := lN'
    rcases List.mem_append.mp hp with hp | hp
    · exact lN2 p (.tail _ (.tail _ (.tail _ (List.mem_append_left _ hp))))
    rcases List.mem_cons.mp hp with rfl | hp
    · exact lN2 _ (.head _)
    · exact lN2 p (.tail _ (.tail _ (.tail _ (List.mem_append_right _ hp))))
  clear lN' l1 l2
  refine hold_in (blockV (σ := List (Addr × Obj)) (items := #[Value.ref a0, Value.ref a1, Value.ref ga]) (fun c => lawLed L o1 o2 o3 o4 o5 o6 ps ++ ((Z, W.listOf #[Value.ref a0, Value.ref a1, Value.ref ga] 0) :: (c ++ fx)))
    (fun i c ys => TextsIn c ys (([r0, r1, r2].map fun e => txs.filter fun r => fitsF r e (namesO o n)).take i) ∧ ∀ p ∈ c, LawOff L p.1) [] rfl ⟨_, zZ.1, rfl, _, rfl⟩ ⟨_, fun c => List.mem_append_right _ (.head _)⟩ (Nat.le_of_ble_eq_true rfl) rfl rfl (fun _ _ => rfl) (fun _ _ => rfl) lF' N2 ⟨.nil, List.forall_mem_nil _⟩ ?_ ?_)
  · clear lF' N2 zZ
    intro c i v ys m₂ h tk g D C I oI oL ok hi hv
    intros hP
    obtain ⟨hP1, hP2⟩ := hP
    revert hP1 hP2
    intro hP1 hP2 hg off hok F' N' hk
    obtain ⟨a, us, an, e, hr2, ha, hus, he⟩ := hall.get (by simpa using hv)
    revert a us an e hr2 ha hus he
    intro a us an e hr2 ha hus he
    obtain rfl := hr2
    have hro := hrr e (List.mem_of_getElem? he)
    have N0 := N'
    dsimp only [lawLed, List.cons_append, List.nil_append] at N'
    k_steps
    refine hold_in ?_
    k_dflt (refine lc_eval (by with_unfolding_all rfl) rfl (by decide) ?_)
    k_steps
    (rename Fr _ _ _ _ => lF'); (rename News _ _ _ _ => lN')
    have hwm : (wa, W.listOf wv.toArray wn) ∈ (C + 1, ok) :: (lawLed L o1 o2 o3 o4 o5 o6 ps ++ (Z, W.listOf #[Value.ref a0, Value.ref a1, Value.ref ga] 0) :: (c ++ fx) ++ [(D, lst ys), (I, oI), (L, oL)]) := .tail _ (List.mem_append_left _ (List.mem_append_right _ (.tail _ (List.mem_append_right _ hwa))))
    have ham : (a, W.listOf us.toArray an) ∈ (C + 1, ok) :: (lawLed L o1 o2 o3 o4 o5 o6 ps ++ (Z, W.listOf #[Value.ref a0, Value.ref a1, Value.ref ga] 0) :: (c ++ fx) ++ [(D, lst ys), (I, oI), (L, oL)]) := .tail _ (List.mem_append_left _ (List.mem_append_right _ (.tail _ (List.mem_append_right _ ha))))
    have hnm : (na, W.listOf nv.toArray nn) ∈ (C + 1, ok) :: (lawLed L o1 o2 o3 o4 o5 o6 ps ++ (Z, W.listOf #[Value.ref a0, Value.ref a1, Value.ref ga] 0) :: (c ++ fx) ++ [(D, lst ys), (I, oI), (L, oL)]) := .tail _ (List.mem_append_left _ (List.mem_append_right _ (.tail _ (List.mem_append_right _ hna))))
    have hwl := StrsAre.length hwv
    refine hold_in (comp_list (σ := Unit) (items := wv.toArray) (fun _ => (C + 1, ok) :: (lawLed L o1 o2 o3 o4 o5 o6 ps ++ (Z, W.listOf #[Value.ref a0, Value.ref a1, Value.ref ga] 0) :: (c ++ fx) ++ [(D, lst ys), (I, oI), (L, oL)])) (fun i _ ys => StrsAre ys ((txs.take i).filter fun r => fitsF r e (namesO o n))) ()
      rfl (lst_here lN' hwm) (.inr ⟨_, fun _ => hwm⟩) (by rw [sizeLine_eq, List.size_toArray]; omega) (by decide) rfl rfl lF' lN' .nil ?_)
    intro g
    refine CompOf.none ?_ ?_
    · clear lF' lN'
      intro c2 i2 v2 ys2 m₃ h tk g D2 C2 oI2 oL2 hi2 hv2 hP3 hg2 off2 hm3 F' N'
      obtain ⟨t, tt, hr3, ht⟩ := strs_at hwv (by simpa using hv2)
      revert t tt hr3 ht
      intro t tt hr3 ht
      obtain rfl := hr3
      obtain ⟨q1, q2, q3⟩ := txOk_list (htx t (List.mem_of_getElem? ht))
      revert q1 q2 q3
      intro q1 q2 q3
      have hel := lst_here N' (List.mem_append_left _ ham)
      have hnl := lst_here N' (List.mem_append_left _ hnm)
      have N9 := N'
      dsimp only [lawLed, List.cons_append, List.nil_append] at N'
      refine wpAny_tests_one ?_
      k_steps
      (rename Fr _ _ _ _ => lF')
      refine hold_in ?_
      refine am_weak (n := 4) (fits_spec (Nat.le_trans q2 (by decide)) hel hus hnl hnv names_letters (by rw [namesO_len]; omega) (hro.1.trans namesO_len.symm) (fun e' he' => by rw [namesO_len]; exact hro.2 e' he') (X.keeps lF'.keep) (T.keeps lF'.keep) ?_) rfl (by decide) (by decide)
      intro h5 tk5 kp
      refine wpAny_truthy_bool ?_
      have F5 := fr_kp lF' kp
      have N5 := news_kp N9 kp
      clear N9 lF' kp hel hnl
      by_cases hf : fitsF t e (namesO o n) = true
      · show if fitsF t e (namesO o n) = true then _ else _
        rw [if_pos hf]
        k_steps
        refine q_keep () F5 N5 hg2 off2 ?_
        show StrsAre _ ((txs.take (i2 + 1)).filter fun r => fitsF r e (namesO o n))
        rw [filt_step ht, if_pos hf]
        exact hP3.append' (.cons _ _ .nil)
      · show if fitsF t e (namesO o n) = true then _ else _
        rw [if_neg hf]
        refine q_keep () F5 N5 hg2 off2 ?_
        show StrsAre _ ((txs.take (i2 + 1)).filter fun r => fitsF r e (namesO o n))
        rw [filt_step ht, if_neg hf, List.append_nil]
        exact hP3
    · clear lF' lN'
      intro c2 ys2 D2 h tk g hP3 hyl2 hg2 off2 F' N'
      rw [List.take_of_length_le (by rw [List.size_toArray]; omega)] at hP3
      have hown : ∀ p ∈ [(C + 1, ok), (D, lst ys), (I, oI), (L, oL)], p ∈ (C + 1, ok) :: (lawLed L o1 o2 o3 o4 o5 o6 ps ++ (Z, W.listOf #[Value.ref a0, Value.ref a1, Value.ref ga] 0) :: (c ++ fx) ++ [(D, lst ys), (I, oI), (L, oL)]) := fun p hp => by
        rcases List.mem_cons.mp hp with rfl | hp
        · exact .head _
        · exact .tail _ (List.mem_append_right _ hp)
      refine v_end ((D2, lst ys2) :: c) F' N' (fun b => hg2 (hg b)) (fun p hp => .tail _ (hown p hp)) (fun p hp => ?_) (fun p hp q hq => ?_) ⟨texts_step (f := fun e => txs.filter fun r => fitsF r e (namesO o n)) (hP1.mono fun p hp => .tail _ hp) he (.head _) hP3, ?_⟩
      · rcases List.mem_append.mp hp with hp | hp
        · exact .tail _ (.tail _ (List.mem_append_left _ (List.mem_append_left _ hp)))
        rcases List.mem_cons.mp hp with rfl | hp
        · exact .tail _ (.tail _ (List.mem_append_left _ (List.mem_append_right _ (.head _))))
        rcases List.mem_cons.mp hp with rfl | hp
        · exact .head _
        · exact .tail _ (.tail _ (List.mem_append_left _ (List.mem_append_right _ (.tail _ hp))))
      · rcases List.mem_append.mp hp with hp | hp
        · exact off p (List.mem_append_left _ hp) q hq
        rcases List.mem_cons.mp hp with rfl | hp
        · exact off _ (List.mem_append_right _ (.head _)) q hq
        rcases List.mem_cons.mp hp with rfl | hp
        · exact Ne.symm (off2 q (hown q hq))
        · exact off p (List.mem_append_right _ (.tail _ hp)) q hq
      · intro p hp
        rcases List.mem_cons.mp hp with rfl | hp
        · exact off_law fun q hq => off2 q (.tail _ (List.mem_append_left _ (List.mem_append_left _ hq)))
        · exact hP2 p hp
  · clear lF' N2 zZ
    intro c ys D C m' h tk g hP hyl hg F' N' off hn hCL hC₀ offC
    refine fin_some rfl rfl rfl F' N' hn hCL hC₀ offC ?_
    clear F' N'
    intro h₃ tk₃ F' N'
    obtain ⟨hP1, hP2⟩ := hP
    revert hP1 hP2
    intro hP1 hP2
    have hP3 : TextsIn c ys ([r0, r1, r2].map fun e => txs.filter fun r => fitsF r e (namesO o n)) := hP1
    have N3 : News h₀ L h₃ (lawLed L o1 o2 o3 o4 o5 o6 ps ++ ((D, lst ys) :: (c ++ fx))) := fun p hp => by
      rcases List.mem_append.mp hp with hp | hp
      · exact N' p (.tail _ (List.mem_append_left _ hp))
      rcases List.mem_cons.mp hp with rfl | hp
      · exact N' _ (.head _)
      · exact N' p (.tail _ (List.mem_append_right _ (.tail _ hp)))
    have f2 : FxOff L ((D, lst ys) :: (c ++ fx)) := fun p hp => by
      rcases List.mem_cons.mp hp with rfl | hp
      · exact off_law fun q hq => off q (List.mem_append_left _ hq)
      rcases List.mem_append.mp hp with hp | hp
      · exact hP2 p hp
      · exact hfx p hp
    have u1 : ∀ p ∈ fx, p ∈ (D, lst ys) :: (c ++ fx) := fun p hp => .tail _ (List.mem_append_right _ hp)
    have u5 : (D, W.listOf ys.toArray ys.length) ∈ (D, lst ys) :: (c ++ fx) := .head _
    have u6 := hP3.mono (objs' := (D, lst ys) :: (c ++ fx)) fun p hp => .tail _ (List.mem_append_left _ hp)
    exact ret _ _ _ _ _ _ _ F' N3 f2 u1 u5 u6 hg
end Mine
end

section
theorem Mine.top_off_PS2 : True := by
  w_top off
  trivial
local macro_rules | `(tactic| omega) => `(tactic| first | lia | omega (config := {}))
open PySem PySem.W PyProof.Rows PySem.Spec
namespace Mine
noncomputable def leS (a b : Str) : Prop := ltCps b.cps.toList a.cps.toList = false
theorem leS_iff {a b : Str} : leS a b ↔ a.cps.toList ≤ b.cps.toList := by
  unfold leS
  rw [ltCps_eq, decide_eq_false_iff_not]
  rfl
theorem leS_trans {a b c : Str} (h1 : leS a b) (h2 : leS b c) : leS a c := leS_iff.mpr (List.le_trans (leS_iff.mp h1) (leS_iff.mp h2))
theorem leS_anti {a b : Str} (h1 : leS a b) (h2 : leS b a) : a = b := by
  have h := List.le_antisymm (leS_iff.mp h1) (leS_iff.mp h2)
  cases a; cases b
  simp at h
  rw [h]
theorem rising_pair : ∀ (l : List Str) (p : Str), risingS p l = true → (p :: l).Pairwise leS
  | [], p, _ => List.pairwise_singleton _ _
  | x :: r, p, h => by
    have h' : (!ltCps x.cps.toList p.cps.toList && risingS x r) = true := h
    rw [Bool.and_eq_true] at h'
    have ih := rising_pair r x h'.2
    have hx : leS p x := by unfold leS; simpa using h'.1
    refine List.pairwise_cons.mpr ⟨fun y hy => ?_, ih⟩
    rcases List.mem_cons.mp hy with rfl | hy
    · exact hx
    · exact leS_trans hx (List.rel_of_pairwise_cons ih hy)
theorem sorted_pair : ∀ {l : List Str}, sortedS l = true → l.Pairwise leS
  | [], _ => .nil
  | x :: r, h => rising_pair r x h
theorem pair_same : ∀ {l1 l2 : List Str}, l1.Perm l2 → l1.Pairwise leS → l2.Pairwise leS → l1 = l2
  | [], l2, hp, _, _ => (List.nil_perm.mp hp).symm ▸ rfl
  | a :: r1, l2, hp, h1, h2 => by
    cases l2 with
    | nil => exact absurd hp.symm (by simp)
    | cons b r2 =>
      have e : a = b := by
        have ha : a ∈ b :: r2 := hp.mem_iff.mp (.head _)
        have hb : b ∈ a :: r1 := hp.mem_iff.mpr (.head _)
        rcases List.mem_cons.mp ha with e | ha
        · exact e
        rcases List.mem_cons.mp hb with e | hb
        · exact e.symm
        exact leS_anti (List.rel_of_pairwise_cons h1 hb) (List.rel_of_pairwise_cons h2 ha)
      subst e
      rw [pair_same (List.Perm.cons_inv hp) (List.pairwise_cons.mp h1).2 (List.pairwise_cons.mp h2).2]
/-- z is a sorted -/
noncomputable def SrtOf (z a : List Str) : Prop := z.Perm a ∧ sortedS z = true
theorem srt_same {z1 z2 a b : List Str} (h1 : SrtOf z1 a) (h2 : SrtOf z2 b) (hab : a.Perm b) : z1 = z2 := pair_same (h1.1.trans (hab.trans h2.1.symm)) (sorted_pair h1.2) (sorted_pair h2.2)
end Mine
end

section
theorem Mine.top_off_LQ : True := by
  w_top off
  trivial
local macro_rules | `(tactic| omega) => `(tactic| first | lia | omega (config := {}))
open PySem PySem.W PyProof.Rows PySem.Spec PySem.Calls
namespace Mine
open PyProof.Rows.LCg (lst lst_snoc NsObj ns_obj fr_but news_but)
theorem k_filledLQ : (hd.heap_39 = hd.heap_39) ∧ (PySem.Challenge.rw_re0068_01 = PySem.Challenge.rw_re0068_01) := by
  k_fill
  exact ⟨rfl, rfl⟩
theorem texts_three {fx : List (Addr × Obj)} {tv : List Value} {B0 B1 B2 : List Str} (h : TextsIn fx tv [B0, B1, B2]) : ∃ b0 b1 b2 u0 u1 u2 n0 n1 n2, tv = [.ref b0, .ref b1, .ref b2] ∧ (b0, W.listOf (List.toArray u0) n0) ∈ fx ∧ StrsAre u0 B0 ∧ (b1, W.listOf (List.toArray u1) n1) ∈ fx ∧ StrsAre u1 B1 ∧ (b2, W.listOf (List.toArray u2) n2) ∈ fx ∧ StrsAre u2 B2 := by
  cases h with
  | cons h1 h2 h => cases h with
    | cons h3 h4 h => cases h with
      | cons h5 h6 h => cases h; exact ⟨_, _, _, _, _, _, _, _, _, rfl, h1, h2, h3, h4, h5, h6⟩
/-- the lists made so far are those asked for, sorted -/
noncomputable def SrtP (L : List (List Str)) (i : Nat) (c : List (Addr × Obj)) (ys : List Value) : Prop :=
  ∃ zs, TextsIn c ys zs ∧ zs.length = i ∧ ∀ (j : Nat) z, zs[j]? = some z → ∃ a, L[j]? = some a ∧ SrtOf z a
theorem srt_nil {L : List (List Str)} : SrtP L 0 [] [] := ⟨[], .nil, rfl, fun j z h => by simp at h⟩
theorem srt_snoc {L : List (List Str)} {i : Nat} {c : List (Addr × Obj)} {ys : List Value} {D : Addr} {vs : List Value} {e : Nat} {z a : List Str} (h : SrtP L i c ys) (hi : L[i]? = some a) (hz : SrtOf z a) (hv : StrsAre vs z) : SrtP L (i + 1) ((D, W.listOf vs.toArray e) :: c) (ys ++ [.ref D]) := by
  obtain ⟨zs, h1, h2, h3⟩ := h
  refine ⟨zs ++ [z], (h1.mono fun p hp => .tail _ hp).snoc (.head _) hv, by rw [List.length_append, h2]; rfl, fun j z' hj => ?_⟩
  by_cases hlt : j < zs.length
  · rw [List.getElem?_append_left hlt] at hj
    exact h3 j z' hj
  · rw [List.getElem?_append_right (by omega)] at hj
    have : j - zs.length = 0 := by
      by_cases q : j - zs.length = 0
      · exact q
      · rw [List.getElem?_eq_none (by simp; omega)] at hj; cases hj
    rw [this] at hj
    cases hj
    exact ⟨a, by rw [show j = i by omega]; exact hi, hz⟩
theorem srt_two {c : List (Addr × Obj)} {ys : List Value} {A B : List Str} (h : SrtP [A, B] 2 c ys) : ∃ z0 z1, TextsIn c ys [z0, z1] ∧ SrtOf z0 A ∧ SrtOf z1 B := by
  obtain ⟨zs, h1, h2, h3⟩ := h
  match zs, h2 with
  | [z0, z1], _ =>
    obtain ⟨a, e, q⟩ := h3 0 z0 rfl
    obtain ⟨b, e2, q2⟩ := h3 1 z1 rfl
    cases e; cases e2
    exact ⟨z0, z1, h1, q, q2⟩
theorem reads_texts {h : Heap} {objs : List (Addr × Obj)} {ys : List Value} {zs : List (List Str)} (H : ∀ p ∈ objs, h.get? p.1 = some p.2) (t : TextsIn objs ys zs) : ∃ as, ReadsAll h ys (zs.map strsD) as := by
  induction t with
  | nil => exact ⟨_, .nil⟩
  | cons h1 h2 _ ih =>
    obtain ⟨as, ih⟩ := ih
    exact ⟨_, .cons (reads_newData ⟨_, H _ h1, rfl, _, rfl⟩ (carried_strs h2)) ih⟩
theorem lay_texts {zs : List (List Str)} (h : ∀ z ∈ zs, ∀ x ∈ z, cpsOk x = true) : PyData.canLay0 (.list (zs.map strsD)) = true ∧ PyData.depth (.list (zs.map strsD)) ≤ 2 := by
  have z : PyData.canLayAll0 (zs.map strsD) = true ∧ PyData.depthAll (zs.map strsD) ≤ 1 := by
    induction zs with
    | nil => exact ⟨rfl, Nat.zero_le _⟩
    | cons x r ih =>
      obtain ⟨i1, i2⟩ := ih fun y hy => h y (.tail _ hy)
      obtain ⟨j1, j2⟩ := lay_strs (h x (.head _))
      refine ⟨?_, ?_⟩
      · show (PyData.canLay0 (strsD x) && PyData.canLayAll0 (r.map strsD)) = true
        rw [i1, j1]; rfl
      · show max (PyData.depth (strsD x)) (PyData.depthAll (r.map strsD)) ≤ 1
        rw [j2]; omega
  exact ⟨z.1, Nat.succ_le_succ z.2⟩
theorem shaped_texts {zs : List (List Str)} (h : ∀ z ∈ zs, ∀ x ∈ z, cpsOk x = true) : SeqAt.shaped (.list (zs.map strsD)) = true := by
  obtain ⟨h1, h2⟩ := lay_texts h
  unfold SeqAt.shaped
  rw [h1, Bool.true_and]
  exact decide_eq_true (Nat.le_trans h2 (by decide))
theorem texts_ne {prog : Program} {w : World} {A : Around} {E : Value → Shared → Prop} {s : Shared} {a b : Addr} {vs us : List Value} {zs : List (List Str)} {Q : Value → Shared → Prop} {objs : List (Addr × Obj)} (H : ∀ p ∈ objs, s.heap.get? p.1 = some p.2) (ha : s.heap.IsList a vs.toArray) (hb : s.heap.IsList b us.toArray)
    (hv : TextsIn objs vs zs) (hu : TextsIn objs us zs) (hx : ∀ z ∈ zs, ∀ x ∈ z, cpsOk x = true) (hr : A.units + 64 < cLine) (h : Q (.bool false) s) : wpAny (model prog w) A (compareOp .NotEq (.ref a) (.ref b)) Q E s := by
  obtain ⟨as, r1⟩ := reads_texts H hv
  obtain ⟨bs, r2⟩ := reads_texts H hu
  obtain ⟨o, ho, hc, n, hd⟩ := ha
  obtain ⟨o2, ho2, hc2, n2, hd2⟩ := hb
  exact ne_dataH (.list ho hc hd r1) (.list ho2 hc2 hd2 r2) (shaped_texts hx) (shaped_texts hx) hr (by rw [SeqAt.eqv_refl _ (lay_texts hx).1]; exact h)
theorem sort_turn {prog : Program} {w : World} {A : Around} {E : Value → Shared → Prop} {s : Shared} {h₀ h : Heap} {C D I L a : Addr} {oI oL : Obj} {m₂ : Str → Option Value} {tk i : Nat} {g : Array GenState} {lw c fx : List (Addr × Obj)} {us ys : List Value} {e : List Str} {L2 : List (List Str)}
    (F : Fr h₀ C h m₂) (N : News h₀ C h (lw ++ (c ++ fx) ++ [(D, lst ys), (I, oI), (L, oL)])) (hl : h.IsList a us.toArray) (hus : StrsAre us e) (h64 : us.length < 64) (he : L2[i]? = some e) (hP : SrtP L2 i c ys)
    (off : ∀ p ∈ lw ++ (c ++ fx), p.1 ≠ D ∧ p.1 ≠ I ∧ p.1 ≠ L) (hg : AllBare s.gens → AllBare g) :
    wpAny (model prog w) A (call (.builtin "sorted") [.ref a]) (fun y s₄ => QEnd h₀ C D I L s [(D, lst ys), (I, oI), (L, oL)] (fun c => lw ++ (c ++ fx)) (fun c ys => SrtP L2 (i + 1) c ys) (ys ++ [y]) s₄) E { s with heap := h, toks := tk, gens := g } := by
  refine sorted_N_str (s := { s with heap := h, toks := tk, gens := g }) F N hl hus h64 fun h' vs' ss' e' F' N' a1 a2 a3 => ?_
  have hbig : ∀ p ∈ lw ++ (c ++ fx) ++ [(D, lst ys), (I, oI), (L, oL)], p.1 ≠ h.objs.size + 1 := fun p hp => Nat.ne_of_lt (Nat.lt_succ_of_lt (Heap.lt_size (N p hp).1))
  refine q_end ((h.objs.size + 1, W.listOf vs'.toArray e') :: c) F' N' hg (fun p hp => .tail _ (List.mem_append_right _ hp)) (fun p hp => ?_) (fun p hp => ?_) (srt_snoc hP he ⟨a2, a3⟩ a1)
  · (try dsimp only at hp)
    rcases List.mem_append.mp hp with hp | hp
    · exact .tail _ (List.mem_append_left _ (List.mem_append_left _ hp))
    rcases List.mem_cons.mp hp with rfl | hp
    · exact .head _
    · exact .tail _ (List.mem_append_left _ (List.mem_append_right _ hp))
  · (try dsimp only at hp)
    rcases List.mem_append.mp hp with hp | hp
    · exact off p (List.mem_append_left _ hp)
    rcases List.mem_cons.mp hp with rfl | hp
    · exact ⟨Ne.symm (hbig _ (List.mem_append_right _ (.head _))), Ne.symm (hbig _ (List.mem_append_right _ (.tail _ (.head _)))), Ne.symm (hbig _ (List.mem_append_right _ (.tail _ (.tail _ (.head _)))))⟩
    · exact off p (List.mem_append_right _ hp)
local macro_rules | `(tactic| walk_at $k:str) => if ["execs cons", "call builtin:sorted", "pyIter ref", "eval ListComp", "compareOp NotEq ref ref"].contains k.getString then `(tactic| (refine hold_of ?_)) else Lean.Macro.throwUnsupported
local macro_rules | `(tactic| walk_at "eval Name") => `(tactic| (k_here; (with_reducible show wpAny _ _ (eval (Expr.Name _ _) (compEnvC _ _ _ _)) _ _ _); k_dflt (refine ldVarK (Fr.ns (by k_asm)) (by assumption) ?_)))
local macro_rules | `(tactic| walk_at "eval Name") => `(tactic| (k_here; (with_reducible show wpAny _ _ (eval (Expr.Name _ _) (envOfC _ _ _ _ _)) _ _ _); k_dflt (refine' nameX_L ?F ?v ?_ ?a ?b; (case F => k_asm); (case a => rfl); (case b => rfl); (case v => assumption))))
theorem st14 {prog : Program} {w : World} {s : Shared} {p : Program} {loose : List Str} {mean : ExcName → Option Value} {mg mb : Str → Option Value} {Q : Flow → Shared → Prop} {E : Value → Shared → Prop}
    {h₀ : Heap} {L fa : Addr} {cd : Value} {o1 o2 o3 o4 o5 o6 : Obj} {ps : Array Value} {m : Str → Option Value} {fx : List (Addr × Obj)} {ra ta : Addr} {rv tv : List Value} {rn tn : Nat} {A0 A1 B0 B1 B2 : List Str}
    (X : (hd.heap_39 w.params).In h₀) (T : Top p loose mean mg mb h₀)
    (l0 : @LT.lt Nat _ 86 L) (d2 : o2.data = .cell (some (.ref ra))) (hm : m (Str.ofString "told") = some (.ref ta))
    (hra : (ra, W.listOf rv.toArray rn) ∈ fx) (hrv : TextsIn fx rv [A0, A1]) (hta : (ta, W.listOf tv.toArray tn) ∈ fx) (htv : TextsIn fx tv [B0, B1, B2])
    (p0 : A0.Perm B0) (p1 : A1.Perm B1) (k0 : ∀ x ∈ A0, cpsOk x = true) (k1 : ∀ x ∈ A1, cpsOk x = true) (s0 : A0.length < 64) (s1 : A1.length < 64)
    (F : Fr h₀ L s.heap m) (N : News h₀ L s.heap (lawLed L o1 o2 o3 o4 o5 o6 ps ++ fx))
    (ret : ∀ h' tk g, Fr h₀ L h' m → News h₀ L h' (lawLed L o1 o2 o3 o4 o5 o6 ps ++ fx) →
      (AllBare s.gens → AllBare g) → wpAny (model prog w) (AM 1) (execs (lawBody.drop 14) (lawEnv L fa cd)) Q E { s with heap := h', toks := tk, gens := g }) :
    wpAny (model prog w) (AM 1) (execs (lawBody.drop 13) (lawEnv L fa cd)) Q E s := by
  revert prog w s p loose mean mg mb Q E h₀ L fa cd o1 o2 o3 o4 o5 o6 ps m fx ra ta rv tv rn tn A0 A1 B0 B1 B2 X T l0 d2 hm hra hrv hta htv p0 p1 k0 k1 s0 s1 F N ret
  show ∀ prog w s p loose mean mg mb Q E h₀ L fa cd o1 o2 o3 o4 o5 o6 ps m fx ra ta rv tv rn tn A0 A1 B0 B1 B2 X T l0 d2 hm hra hrv hta htv p0 p1 k0 k1 s0 s1 F N ret, _
  intro prog w s p loose mean mg mb Q E h₀ L fa cd o1 o2 o3 o4 o5 o6 ps m fx ra ta rv tv rn tn A0 A1 B0 B1 B2
  intros X T l0 d2 hm hra hrv hta htv p0 p1 k0 k1 s0 s1 F N ret
  obtain ⟨b0, b1, b2, u0, u1, u2, n0, n1, n2, hr1, hb0, hu0, hb1, hu1, hb2, hu2⟩ := texts_three htv
  revert b0 b1 b2 u0 u1 u2 n0 n1 n2 hr1 hb0 hu0 hb1 hu1 hb2 hu2
  intro b0 b1 b2 u0 u1 u2 n0 n1 n2 hr1 hb0 hu0 hb1 hu1 hb2 hu2
  obtain rfl := hr1
  have N1 := news_cons N (List.mem_append_right _ hta)
  have hrl := hrv.length
  dsimp only [lawBody, the, List.drop]
  dsimp only [lawLed, List.cons_append, List.nil_append] at N1
  refine wpAny_execs_cons ?_
  try dsimp only
  k_steps
  refine hold_in ?_
  k_dflt (refine lc_eval (by with_unfolding_all rfl) rfl (by decide) ?_)
  k_steps
  refine hold_in (comp_list (σ := List (Addr × Obj)) (items := rv.toArray) (fun c => lawLed L o1 o2 o3 o4 o5 o6 ps ++ (c ++ fx)) (fun i c ys => SrtP [A0, A1] i c ys) [] rfl (lst_here N (List.mem_append_right _ hra)) (.inr ⟨_, fun c => List.mem_append_right _ (List.mem_append_right _ hra)⟩)
    (by rw [sizeLine_eq, List.size_toArray, hrl]; exact Nat.le_of_ble_eq_true rfl) (by decide) rfl rfl F N srt_nil ?_)
  intro g
  refine CompOf.none ?_ ?_
  · clear F N N1
    intro c i v ys m₂ h tk g D C oI oL hi hv hP hg off hm2 F' N'
    obtain ⟨a, us, an, e, hr2, ha, hus, he⟩ := hrv.get (by simpa using hv)
    revert a us an e hr2 ha hus he
    intro a us an e hr2 ha hus he
    obtain rfl := hr2
    have hl := lst_here N' (List.mem_append_left _ (List.mem_append_right _ (List.mem_append_right _ ha)))
    have h64 : us.length < 64 := by
      rw [StrsAre.length hus]
      rcases List.mem_cons.mp (List.mem_of_getElem? he) with rfl | hx
      · exact s0
      · rw [List.mem_singleton.mp hx]; exact s1
    refine wpAny_tests_nil ?_
    rw [if_pos rfl]
    k_steps
    refine hold_in ?_
    exact sort_turn F' N' hl hus h64 he hP off hg
  · clear F N N1
    intro c ys D h tk g hP hyl hg off F' N'
    rw [List.size_toArray, hrl] at hP
    obtain ⟨z0, z1, hz, q0, q1⟩ := srt_two hP
    revert z0 z1 hz q0 q1
    intro z0 z1 hz q0 q1
    have N2 : News h₀ L h ((ta, W.listOf #[.ref b0, .ref b1, .ref b2] tn) :: (lawLed L o1 o2 o3 o4 o5 o6 ps ++ ((D, lst ys) :: (c ++ fx)))) := fun p hp => by
      rcases List.mem_cons.mp hp with rfl | hp
      · exact N' _ (.tail _ (List.mem_append_right _ (List.mem_append_right _ hta)))
      rcases List.mem_append.mp hp with hp | hp
      · exact N' p (.tail _ (List.mem_append_left _ hp))
      rcases List.mem_cons.mp hp with rfl | hp
      · exact N' _ (.head _)
      · exact N' p (.tail _ (List.mem_append_right _ hp))
    clear N' off hyl hP
    dsimp only [lawLed, List.cons_append, List.nil_append] at N2
    (try dsimp only)
    k_steps
    refine hold_in ?_
    k_dflt (refine lc_eval (by with_unfolding_all rfl) rfl (by decide) ?_)
    k_steps
    (rename Fr _ _ _ _ => lF'); (rename News _ _ _ _ => lN')
    rename_i Y h1 l1
    have N3 : News h₀ L h1 (((Y, W.listOf #[.ref b0, .ref b1] 0) :: lawLed L o1 o2 o3 o4 o5 o6 ps) ++ (([] : List (Addr × Obj)) ++ ((D, lst ys) :: (c ++ fx)))) := fun p hp => by
      have lN2 : News h₀ L h1 ((Y, W.listOf #[.ref b0, .ref b1] 0) :: _ :: (lawLed L o1 o2 o3 o4 o5 o6 ps ++ ((D, lst ys) :: (c ++ fx)))) := lN'
      rcases List.mem_append.mp hp with hp | hp
      · rcases List.mem_cons.mp hp with rfl | hp
        · exact lN2 _ (.head _)
        · exact lN2 p (.tail _ (.tail _ (List.mem_append_left _ hp)))
      · exact lN2 p (.tail _ (.tail _ (List.mem_append_right _ hp)))
    clear lN' l1
    have u1 : ∀ p ∈ fx, p ∈ (D, lst ys) :: (c ++ fx) := fun p hp => .tail _ (List.mem_append_right _ hp)
    have u2 : (D, W.listOf ys.toArray ys.length) ∈ (D, lst ys) :: (c ++ fx) := .head _
    have u3 : TextsIn ((D, lst ys) :: (c ++ fx)) ys [z0, z1] := hz.mono fun p hp => .tail _ (List.mem_append_left _ hp)
    have htv2 : TextsIn ((D, lst ys) :: (c ++ fx)) [.ref b0, .ref b1] [B0, B1] := .cons (u1 _ hb0) hu0 (.cons (u1 _ hb1) hu1 .nil)
    have zY := N3 (Y, _) (.head _)
    generalize (D, lst ys) :: (c ++ fx) = fy at *
    refine hold_in (comp_list (σ := List (Addr × Obj)) (items := #[.ref b0, .ref b1]) (fun c => ((Y, W.listOf #[.ref b0, .ref b1] 0) :: lawLed L o1 o2 o3 o4 o5 o6 ps) ++ (c ++ fy)) (fun i c ys => SrtP [B0, B1] i c ys) [] rfl ⟨_, zY.1, rfl, _, rfl⟩ (.inr ⟨_, fun c => .head _⟩)
      (Nat.le_of_ble_eq_true rfl) (by decide) rfl rfl lF' N3 srt_nil ?_)
    intro g
    refine CompOf.none ?_ ?_
    · clear lF' N3 zY hz
      intro c i v ys2 m₂ h tk g2 D2 C oI oL hi hv hP hg2 off hm2 F' N'
      obtain ⟨a, us, an, e, hr3, ha, hus, he⟩ := htv2.get (by simpa using hv)
      revert a us an e hr3 ha hus he
      intro a us an e hr3 ha hus he
      obtain rfl := hr3
      have hl := lst_here N' (List.mem_append_left _ (List.mem_append_right _ (List.mem_append_right _ ha)))
      have h64 : us.length < 64 := by
        rw [StrsAre.length hus]
        rcases List.mem_cons.mp (List.mem_of_getElem? he) with rfl | hx
        · rw [← p0.length_eq]; exact s0
        · rw [List.mem_singleton.mp hx, ← p1.length_eq]; exact s1
      refine wpAny_tests_nil ?_
      rw [if_pos rfl]
      k_steps
      refine hold_in ?_
      exact sort_turn F' N' hl hus h64 he hP off hg2
    · clear lF' N3 zY hz
      intro c ys2 D2 h tk g2 hP hyl hg2 off F' N'
      obtain ⟨y0, y1, hz2, e0, e1⟩ := srt_two hP
      revert y0 y1 hz2 e0 e1
      intro y0 y1 hz2 e0 e1
      rw [srt_same e0 q0 p0.symm, srt_same e1 q1 p1.symm] at hz2
      have hzz : ∀ z ∈ [z0, z1], ∀ x ∈ z, cpsOk x = true := List.forall_mem_cons.mpr ⟨fun x hx => k0 x (q0.1.mem_iff.mp hx), List.forall_mem_cons.mpr ⟨fun x hx => k1 x (q1.1.mem_iff.mp hx), List.forall_mem_nil _⟩⟩
      have N4 : News h₀ L h (lawLed L o1 o2 o3 o4 o5 o6 ps ++ fx) := fun p hp => by
        rcases List.mem_append.mp hp with hp | hp
        · exact N' p (.tail _ (List.mem_append_left _ (.tail _ hp)))
        · exact N' p (.tail _ (List.mem_append_right _ (List.mem_append_right _ (u1 _ hp))))
      (try dsimp only)
      k_steps
      refine hold_in ?_
      refine texts_ne (objs := c ++ fy) (fun p hp => (N' p (.tail _ (List.mem_append_right _ hp))).1) (lst_here N' (.tail _ (List.mem_append_right _ (List.mem_append_right _ u2)))) (lst_here N' (vs := ys2) (.head _)) (u3.mono fun p hp => List.mem_append_right _ hp) (hz2.mono fun p hp => List.mem_append_left _ hp) hzz (by decide) ?_
      clear N' off
      k_steps
      refine hold_in ?_
      exact ret _ _ _ F' N4 (fun b => hg2 (hg b))
end Mine
end

section
theorem Mine.top_off_LR : True := by
  w_top off
  trivial
local macro_rules | `(tactic| walk_at "idle") => `(tactic| skip)
local macro_rules | `(tactic| omega) => `(tactic| first | lia | omega (config := {}))
open PySem PySem.W PyProof.Rows PySem.Spec PySem.Calls
namespace Mine
open PyProof.Rows.LCg (lst lst_snoc NsObj ns_obj fr_but news_but)
theorem k_filledLR : (hd.heap_39 = hd.heap_39) ∧ (PySem.Challenge.rw_re0068_01 = PySem.Challenge.rw_re0068_01) := by
  k_fill
  exact ⟨rfl, rfl⟩
theorem texts_two {fx : List (Addr × Obj)} {tv : List Value} {B0 B1 : List Str} (h : TextsIn fx tv [B0, B1]) : ∃ b0 b1 u0 u1 n0 n1, tv = [.ref b0, .ref b1] ∧ (b0, W.listOf (List.toArray u0) n0) ∈ fx ∧ StrsAre u0 B0 ∧ (b1, W.listOf (List.toArray u1) n1) ∈ fx ∧ StrsAre u1 B1 := by
  cases h with
  | cons h1 h2 h => cases h with
    | cons h3 h4 h => cases h; exact ⟨_, _, _, _, _, _, rfl, h1, h2, h3, h4⟩
local macro_rules | `(tactic| walk_at $k:str) => if ["subscriptTail Name Constant ref int", "pyIter ref", "eval ListComp", "compareOp Eq ref ref"].contains k.getString then `(tactic| (refine hold_of ?_)) else Lean.Macro.throwUnsupported
local macro_rules | `(tactic| walk_at "eval Name") => `(tactic| (k_here; (with_reducible show wpAny _ _ (eval (Expr.Name _ _) (compEnvC _ _ _ _)) _ _ _); k_dflt (refine ldVarK (Fr.ns (by k_asm)) (by assumption) ?_)))
local macro_rules | `(tactic| walk_at "eval Name") => `(tactic| (k_here; (with_reducible show wpAny _ _ (eval (Expr.Name _ _) (envOfC _ _ _ _ _)) _ _ _); k_dflt (refine' nameX_L ?F ?v ?_ ?a ?b; (case F => k_asm); (case a => rfl); (case b => rfl); (case v => assumption))))
theorem st15 {prog : Program} {w : World} {s : Shared} {p : Program} {loose : List Str} {mean : ExcName → Option Value} {mg mb : Str → Option Value} {Q : Flow → Shared → Prop} {E : Value → Shared → Prop}
    {h₀ : Heap} {L fa : Addr} {cd : Value} {o1 o2 o3 o4 o5 o6 : Obj} {ps : Array Value} {m : Str → Option Value} {fx : List (Addr × Obj)} {ra ta : Addr} {rv tv : List Value} {rn tn : Nat} {A0 A1 B0 B1 B2 : List Str} {l : LexA} {t5 : Tok}
    (X : (hd.heap_39 w.params).In h₀) (T : Top p loose mean mg mb h₀)
    (l0 : @LT.lt Nat _ 86 L) (d2 : o2.data = .cell (some (.ref ra))) (d3 : o3.data = .cell (some (.ref l.xi))) (hm : m (Str.ofString "told") = some (.ref ta))
    (hra : (ra, W.listOf rv.toArray rn) ∈ fx) (hrv : TextsIn fx rv [A0, A1]) (hta : (ta, W.listOf tv.toArray tn) ∈ fx) (htv : TextsIn fx tv [B0, B1, B2])
    (hx : (l.xi, instObj 80 l.dx) ∈ fx) (hdx : (l.dx, lexDict w l 2 t5) ∈ fx)
    (hB : B0.filter (fun r => A1.contains r) = B2) (k2 : ∀ x ∈ B2, cpsOk x = true) (s0 : B0.length ≤ 64) (s1 : A1.length ≤ 64)
    (F : Fr h₀ L s.heap m) (N : News h₀ L s.heap (lawLed L o1 o2 o3 o4 o5 o6 ps ++ fx))
    (ret : ∀ h' tk g, Fr h₀ L h' m → News h₀ L h' (lawLed L o1 o2 o3 o4 o5 o6 ps ++ fx) → (AllBare s.gens → AllBare g) → Q (.ret (.bool true)) { s with heap := h', toks := tk, gens := g }) :
    wpAny (model prog w) (AM 1) (execs (lawBody.drop 14) (lawEnv L fa cd)) Q E s := by
  revert prog w s p loose mean mg mb Q E h₀ L fa cd o1 o2 o3 o4 o5 o6 ps m fx ra ta rv tv rn tn A0 A1 B0 B1 B2 l t5 X T l0 d2 d3 hm hra hrv hta htv hx hdx hB k2 s0 s1 F N ret
  show ∀ prog w s p loose mean mg mb Q E h₀ L fa cd o1 o2 o3 o4 o5 o6 ps m fx ra ta rv tv rn tn A0 A1 B0 B1 B2 l t5 X T l0 d2 d3 hm hra hrv hta htv hx hdx hB k2 s0 s1 F N ret, _
  intro prog w s p loose mean mg mb Q E h₀ L fa cd o1 o2 o3 o4 o5 o6 ps m fx ra ta rv tv rn tn A0 A1 B0 B1 B2 l t5
  intros X T l0 d2 d3 hm hra hrv hta htv hx hdx hB k2 s0 s1 F N ret
  obtain ⟨b0, b1, b2, u0, u1, u2, n0, n1, n2, hr1, hb0, hu0, hb1, hu1, hb2, hu2⟩ := texts_three htv
  revert b0 b1 b2 u0 u1 u2 n0 n1 n2 hr1 hb0 hu0 hb1 hu1 hb2 hu2
  intro b0 b1 b2 u0 u1 u2 n0 n1 n2 hr1 hb0 hu0 hb1 hu1 hb2 hu2
  obtain rfl := hr1
  obtain ⟨a0, a1, v0, v1, j0, j1, hr2, ha0, hv0, ha1, hv1⟩ := texts_two hrv
  revert a0 a1 v0 v1 j0 j1 hr2 ha0 hv0 ha1 hv1
  intro a0 a1 v0 v1 j0 j1 hr2 ha0 hv0 ha1 hv1
  obtain rfl := hr2
  have N0 : News h₀ L s.heap ((a1, W.listOf v1.toArray j1) :: (ra, W.listOf #[.ref a0, .ref a1] rn) :: (ta, W.listOf #[.ref b0, .ref b1, .ref b2] tn) :: (l.xi, instObj 80 l.dx) :: (l.dx, lexDict w l 2 t5) :: (lawLed L o1 o2 o3 o4 o5 o6 ps ++ fx)) :=
    fun p hp => by
      rcases List.mem_cons.mp hp with rfl | hp
      · exact N _ (List.mem_append_right _ ha1)
      rcases List.mem_cons.mp hp with rfl | hp
      · exact N _ (List.mem_append_right _ hra)
      rcases List.mem_cons.mp hp with rfl | hp
      · exact N _ (List.mem_append_right _ hta)
      rcases List.mem_cons.mp hp with rfl | hp
      · exact N _ (List.mem_append_right _ hx)
      rcases List.mem_cons.mp hp with rfl | hp
      · exact N _ (List.mem_append_right _ hdx)
      · exact N p hp
  have hl0 := StrsAre.length hu0
  have hl1 := StrsAre.length hv1
  have N1 := N0
  clear N
  dsimp only [lawBody, the, List.drop]
  dsimp only [lawLed, List.cons_append, List.nil_append] at N1
  refine wpAny_execs_cons ?_
  try dsimp only
  k_steps
  refine hold_in ?_
  k_dflt (refine lc_eval (by with_unfolding_all rfl) rfl (by decide) ?_)
  k_steps
  refine hold_in ?_
  refine item_litK (k := 0) (v := .ref b0) (lst_here N0 (vs := [.ref b0, .ref b1, .ref b2]) (.tail _ (.tail _ (.head _)))) (by decide) (by decide) rfl ?_
  k_steps
  refine hold_in (comp_list (σ := Unit) (items := u0.toArray) (fun _ => (a1, W.listOf v1.toArray j1) :: (ra, W.listOf #[.ref a0, .ref a1] rn) :: (ta, W.listOf #[.ref b0, .ref b1, .ref b2] tn) :: (l.xi, instObj 80 l.dx) :: (l.dx, lexDict w l 2 t5) :: (lawLed L o1 o2 o3 o4 o5 o6 ps ++ fx))
    (fun i _ ys => StrsAre ys ((B0.take i).filter fun r => A1.contains r)) () rfl (lst_here N0 (.tail _ (.tail _ (.tail _ (.tail _ (.tail _ (List.mem_append_right _ hb0))))))) (.inr ⟨_, fun _ => .tail _ (.tail _ (.tail _ (.tail _ (.tail _ (List.mem_append_right _ hb0)))))⟩)
    (by rw [sizeLine_eq, List.size_toArray]; omega) (by decide) rfl rfl F N0 .nil ?_)
  intro g
  refine CompOf.none ?_ ?_
  · clear F N0 N1 hv0 hu1 hu2
    intro c i v ys m₂ h tk g D C oI oL hi hv hP hg off hm2 F' N'
    obtain ⟨t, tt, hr3, ht⟩ := strs_at hu0 (by simpa using hv)
    revert t tt hr3 ht
    intro t tt hr3 ht
    obtain rfl := hr3
    clear hu0
    have N9 := N'
    dsimp only [lawLed, List.cons_append, List.nil_append] at N'
    refine wpAny_tests_one ?_
    k_steps
    refine hold_in ?_
    refine item_litK (k := 1) (v := .ref a1) (lst_here N' (vs := [.ref a0, .ref a1]) (.tail _ (.head _))) (by decide) (by decide) rfl ?_
    k_steps
    · rename (A1.any fun x => x == t) = true => hc
      rw [flood_any] at hc
      refine q_keep () F' N9 hg off ?_
      show StrsAre _ ((B0.take (i + 1)).filter fun r => A1.contains r)
      rw [filt_step ht, if_pos hc]
      exact hP.append' (.cons _ _ .nil)
    · rename (A1.any fun x => x == t) = false => hc
      rw [flood_any] at hc
      refine q_keep () F' N9 hg off ?_
      show StrsAre _ ((B0.take (i + 1)).filter fun r => A1.contains r)
      rw [filt_step ht, if_neg (by rw [hc]; exact Bool.false_ne_true), List.append_nil]
      exact hP
  · clear F N0 N1
    intro c ys D h tk g hP hyl hg off F' N'
    rw [List.take_of_length_le (by rw [List.size_toArray]; omega), hB] at hP
    have N9 : News h₀ L h (lawLed L o1 o2 o3 o4 o5 o6 ps ++ fx) := fun p hp => N' p (.tail _ (.tail _ (.tail _ (.tail _ (.tail _ (.tail _ hp))))))
    have zD := (N' _ (.head _)).1
    dsimp only [lawLed, List.cons_append, List.nil_append] at N'
    (try dsimp only)
    k_steps
    refine hold_in ?_
    refine item_litK (k := 2) (v := .ref b2) (lst_here N' (vs := [.ref b0, .ref b1, .ref b2]) (.tail _ (.tail _ (.tail _ (.head _))))) (by decide) (by decide) rfl ?_
    k_steps
    refine hold_in ?_
    have hlb : h.IsList b2 u2.toArray := lst_here N9 (List.mem_append_right _ hb2)
    have hld : h.IsList D ys.toArray := ⟨_, zD, rfl, _, rfl⟩
    refine strs_same hld hlb hP hu2 k2 (by decide) ?_
    clear hu0 hu1 hu2 hv0 hv1 hlb hld zD
    k_steps
    exact ret h _ g F' N9 hg
end Mine
end

section
theorem Mine.top_off_PQ : True := by
  w_top off
  trivial
local macro_rules | `(tactic| omega) => `(tactic| first | lia | omega (config := {}))
open PySem PySem.W PyProof.Rows
namespace Mine
noncomputable abbrev txsF (o n : Nat) : List Str := (allRows n).map fun e => rowF e (namesO o n)
noncomputable abbrev fitL (o n : Nat) (e : List Int) : List Str := (txsF o n).filter fun r => fitsF r e (namesO o n)
noncomputable abbrev flL (o n : Nat) (e : List Int) : List Str := floodF (2 * n) 20 [rowF e (namesO o n)] [rowF e (namesO o n)]
structure LawFacts (o n : Nat) : Prop where
  row : ∀ e ∈ allRows n, rowOk n e
  tx : ∀ x ∈ txsF o n, txOk x = true
  ok : ∀ e ∈ allRows n, floodOk (2 * n) 20 [rowF e (namesO o n)] [rowF e (namesO o n)] = true
  perm : ∀ e ∈ allRows n, (flL o n e).Perm (fitL o n e)
  pair : ∀ a ∈ allRows n, ∀ b ∈ allRows n, (fitL o n a).filter (fun r => (flL o n b).contains r) = fitL o n (grownF (List.zipWith max a b)) ∧ grownF (List.zipWith max a b) ∈ allRows n
noncomputable def rowOkB (n : Nat) (r : List Int) : Bool := r.length == n && r.all fun e => decide (0 ≤ e) && decide (e ≤ n)
theorem rowOkB_of {n : Nat} {r : List Int} (h : rowOkB n r = true) : rowOk n r := by
  unfold rowOkB at h
  simp only [Bool.and_eq_true, beq_iff_eq, List.all_eq_true, decide_eq_true_eq] at h
  exact ⟨h.1, h.2⟩
/-- two texts by their signs: cheaper than their own == -/
noncomputable def eqT (a b : Str) : Bool := a.cps.toList == b.cps.toList
theorem eqT_iff {a b : Str} : eqT a b = true ↔ a = b := by
  unfold eqT
  rw [beq_iff_eq]
  constructor
  · intros h
    cases a; cases b
    simp at h
    rw [h]
  · rintro rfl; rfl
theorem eqTs_iff : ∀ {a b : List Str}, (a.map (fun x => x.cps.toList) == b.map (fun x => x.cps.toList)) = true → a = b
  | [], [], _ => rfl
  | [], _ :: _, h => by simp at h
  | _ :: _, [], h => by simp at h
  | x :: a, y :: b, h => by
    simp only [List.map_cons, List.cons_beq_cons, Bool.and_eq_true] at h
    rw [eqT_iff.mp (show eqT x y = true from h.1), eqTs_iff h.2]
/-- what holds of the rows whatever the letters are: rows are told by their numbers -/
structure Shp where
  es : List (List Int)
  mv : List (List Nat)
  told : List (List Nat)
  fl : List (List Nat)
  ell : List (List (List Bool))
noncomputable def addI (rq : List Nat × List Nat) (one : Nat) : List Nat × List Nat := if rq.1.contains one then rq else (rq.1 ++ [one], rq.2 ++ [one])
noncomputable def floodI (mv : List (List Nat)) : Nat → List Nat → List Nat → Option (List Nat)
  | 0, _, _ => none
  | _ + 1, r, [] => some r
  | k + 1, r, t :: q => floodI mv k ((mv.getD t []).foldl addI (r, q)).1 ((mv.getD t []).foldl addI (r, q)).2
noncomputable def fitE (n : Nat) (E : List (List Bool)) (es : List Int) : Bool := (List.range n).all fun k => (List.range (es.getD k 0).toNat).all fun i => decide (i ≤ k) || (E.getD k []).getD i false
noncomputable def shpRow (n : Nat) (S : Shp) (i : Nat) : Bool :=
  rowOkB n (S.es.getD i []) && (floodI S.mv 20 [i] [i] == some (S.fl.getD i [])) && (S.fl.getD i []).isPerm (S.told.getD i []) && (S.told.getD i [] == (List.range S.es.length).filter (fun j => (S.told.getD i []).contains j)) &&
    (S.mv.getD i []).all (fun j => decide (j < S.es.length)) && decide ((S.mv.getD i []).length ≤ 20) && (List.range S.es.length).all (fun j => fitE n (S.ell.getD j []) (S.es.getD i []) == (S.told.getD i []).contains j)
noncomputable def shpPair (S : Shp) (i j : Nat) : Bool :=
  (List.range S.es.length).any fun c => S.es.getD c [] == grownF (List.zipWith max (S.es.getD i []) (S.es.getD j [])) && ((S.told.getD i []).filter fun t => (S.fl.getD j []).contains t) == S.told.getD c []
noncomputable def shpOk (n : Nat) (S : Shp) : Bool := (List.range S.es.length).all (shpRow n S) && (List.range S.es.length).all fun i => (List.range S.es.length).all fun j => shpPair S i j
/-- what holds of one set of letters -/
noncomputable def ltrRow (n : Nat) (S : Shp) (nm tx : List Str) (i : Nat) : Bool :=
  eqT (rowF (S.es.getD i []) nm) (tx.getD i Str.empty) && mOk (2 * n) (tx.getD i Str.empty) && ((mvs (2 * n) (tx.getD i Str.empty)).map (fun x => x.cps.toList) == ((S.mv.getD i []).map fun j => tx.getD j Str.empty).map fun x => x.cps.toList) && txOk (tx.getD i Str.empty)
noncomputable def ltrOne (S : Shp) (tx : List Str) : Bool := (List.range S.es.length).all fun i => (List.range S.es.length).all fun j => !(eqT (tx.getD i Str.empty) (tx.getD j Str.empty)) || i == j
noncomputable def ltrEll (n : Nat) (S : Shp) (nm tx : List Str) (j : Nat) : Bool :=
  (List.range n).all fun k => (List.range n).all fun i => decide (i ≤ k) || (ellF (nm.getD k Str.empty) (nm.getD i Str.empty) (tx.getD j Str.empty) == ((S.ell.getD j []).getD k []).getD i false)
theorem all_range {N : Nat} {f : Nat → Bool} (h : (List.range N).all f = true) {i : Nat} (hi : i < N) : f i = true := List.all_eq_true.mp h i (List.mem_range.mpr hi)

section
variable {n N : Nat} {g : Nat → Str} {mv : List (List Nat)}
theorem cont_map {r : List Nat} {x : Nat} (inj : ∀ i j, i < N → j < N → g i = g j → i = j) (hr : ∀ i ∈ r, i < N) (hx : x < N) : (r.map g).contains (g x) = r.contains x := by
  rw [Bool.eq_iff_iff, List.contains_iff_mem, List.contains_iff_mem]
  constructor
  · intros h
    obtain ⟨y, hy, e⟩ := List.mem_map.mp h
    exact inj y x (hr y hy) hx e ▸ hy
  · exact fun h => List.mem_map_of_mem h
theorem add_map {r q : List Nat} {x : Nat} (inj : ∀ i j, i < N → j < N → g i = g j → i = j) (hr : ∀ i ∈ r, i < N) (hx : x < N) : floodAdd (r.map g, q.map g) (g x) = ((addI (r, q) x).1.map g, (addI (r, q) x).2.map g) := by
  unfold floodAdd addI
  dsimp only
  rw [cont_map inj hr hx]
  split
  · rfl
  · simp
theorem add_lt {r q : List Nat} {x : Nat} (hr : ∀ i ∈ r, i < N) (hq : ∀ i ∈ q, i < N) (hx : x < N) : (∀ i ∈ (addI (r, q) x).1, i < N) ∧ ∀ i ∈ (addI (r, q) x).2, i < N := by
  unfold addI
  split
  · exact ⟨hr, hq⟩
  · refine ⟨fun i hi => ?_, fun i hi => ?_⟩
    · rcases List.mem_append.mp hi with hi | hi
      · exact hr i hi
      · rw [List.mem_singleton.mp hi]; exact hx
    · rcases List.mem_append.mp hi with hi | hi
      · exact hq i hi
      · rw [List.mem_singleton.mp hi]; exact hx
theorem fold_map (inj : ∀ i j, i < N → j < N → g i = g j → i = j) : ∀ {ms r q : List Nat}, (∀ i ∈ ms, i < N) → (∀ i ∈ r, i < N) → (∀ i ∈ q, i < N) →
    (ms.map g).foldl floodAdd (r.map g, q.map g) = ((ms.foldl addI (r, q)).1.map g, (ms.foldl addI (r, q)).2.map g) ∧ (∀ i ∈ (ms.foldl addI (r, q)).1, i < N) ∧ ∀ i ∈ (ms.foldl addI (r, q)).2, i < N
  | [], r, q, _, hr, hq => ⟨rfl, hr, hq⟩
  | x :: ms, r, q, hm, hr, hq => by
    have h1 := add_map (q := q) inj hr (hm x (.head _))
    obtain ⟨h2, h3⟩ := add_lt hr hq (hm x (.head _))
    simp only [List.map_cons, List.foldl_cons]
    rw [h1]
    exact fold_map inj (fun i hi => hm i (.tail _ hi)) h2 h3
theorem flood_map (hn : 0 < n) (inj : ∀ i j, i < N → j < N → g i = g j → i = j) (H : ∀ t, t < N → mOk n (g t) = true ∧ mvs n (g t) = (mv.getD t []).map g ∧ (mv.getD t []).length ≤ 20 ∧ ∀ i ∈ mv.getD t [], i < N) :
    ∀ {k : Nat} {r q z : List Nat}, (∀ i ∈ r, i < N) → (∀ i ∈ q, i < N) → floodI mv k r q = some z → floodOk n k (r.map g) (q.map g) = true ∧ floodF n k (r.map g) (q.map g) = z.map g ∧ ∀ i ∈ z, i < N
  | 0, _, _, _, _, _, e => by cases e
  | k + 1, r, [], z, hr, _, e => by cases e; exact ⟨rfl, rfl, hr⟩
  | k + 1, r, t :: q, z, hr, hq, e => by
    obtain ⟨h1, h2, h3, h4⟩ := H t (hq t (.head _))
    obtain ⟨f1, f2, f3⟩ := fold_map inj h4 hr (fun i hi => hq i (.tail _ hi))
    obtain ⟨i1, i2, i3⟩ := flood_map hn inj H f2 f3 (show floodI mv k _ _ = some z from e)
    have e1 : (mvs n (g t)).foldl floodAdd (r.map g, q.map g) = (((mv.getD t []).foldl addI (r, q)).1.map g, ((mv.getD t []).foldl addI (r, q)).2.map g) := by rw [h2]; exact f1
    refine ⟨?_, ?_, i3⟩
    · show (mOk n (g t) && decide (0 < n) && decide ((mvs n (g t)).length ≤ 20) && floodOk n k ((mvs n (g t)).foldl floodAdd (r.map g, q.map g)).1 ((mvs n (g t)).foldl floodAdd (r.map g, q.map g)).2) = true
      rw [e1, h1, decide_eq_true hn, decide_eq_true (show (mvs n (g t)).length ≤ 20 by rw [h2, List.length_map]; exact h3)]
      exact i1
    · show floodF n k ((mvs n (g t)).foldl floodAdd (r.map g, q.map g)).1 ((mvs n (g t)).foldl floodAdd (r.map g, q.map g)).2 = _
      rw [e1]
      exact i2
end
theorem all_or_congr {N : Nat} {p a b : Nat → Bool} (h : ∀ i, i < N → p i = false → a i = b i) {M : Nat} (hM : M ≤ N) : ((List.range M).all fun i => p i || a i) = ((List.range M).all fun i => p i || b i) := by
  rw [Bool.eq_iff_iff, List.all_eq_true, List.all_eq_true]
  constructor
  · intros H i hi
    have := H i hi
    cases hp : p i with
    | true => rfl
    | false => rw [hp] at this; rw [← h i (Nat.lt_of_lt_of_le (List.mem_range.mp hi) hM) hp]; exact this
  · intros H i hi
    have := H i hi
    cases hp : p i with
    | true => rfl
    | false => rw [hp] at this; rw [h i (Nat.lt_of_lt_of_le (List.mem_range.mp hi) hM) hp]; exact this
theorem fits_ell {n : Nat} {nm : List Str} {t : Str} {E : List (List Bool)} {es : List Int} (hn : nm.length = n) (hr : rowOk n es) (h : ∀ k i, k < n → i < n → ¬ i ≤ k → ellF (nm.getD k Str.empty) (nm.getD i Str.empty) t = (E.getD k []).getD i false) : fitsF t es nm = fitE n E es := by
  unfold fitsF fitE
  rw [hn]
  have hb : ∀ k, k < n → ((List.range (es.getD k 0).toNat).all fun i => decide (i ≤ k) || ellF (nm.getD k Str.empty) (nm.getD i Str.empty) t) = ((List.range (es.getD k 0).toNat).all fun i => decide (i ≤ k) || (E.getD k []).getD i false) := fun k hk => by
    refine all_or_congr (N := n) (p := fun i => decide (i ≤ k)) (a := fun i => ellF (nm.getD k Str.empty) (nm.getD i Str.empty) t) (b := fun i => (E.getD k []).getD i false) (fun i hi hp => h k i hk hi (of_decide_eq_false hp)) ?_
    have hk' : k < es.length := by rw [hr.1]; exact hk
    have : es.getD k 0 = es[k] := by rw [List.getD, List.getElem?_eq_getElem hk']; rfl
    have := hr.2 _ (List.getElem_mem hk')
    omega
  rw [Bool.eq_iff_iff, List.all_eq_true, List.all_eq_true]
  constructor
  · intros H k hk
    rw [← hb k (List.mem_range.mp hk)]; exact H k hk
  · intros H k hk
    rw [hb k (List.mem_range.mp hk)]; exact H k hk
theorem map_get {α β : Type} {f : α → β} {l : List α} {d : α} : l.map f = (List.range l.length).map fun i => f (l.getD i d) := by
  refine List.ext_getElem (by simp) fun i h1 h2 => ?_
  simp only [List.getElem_map, List.getElem_range]
  rw [List.getD, List.getElem?_eq_getElem (by simpa using h1)]; rfl
theorem facts_of {o n : Nat} {nm tx : List Str} {S : Shp} (hn : 0 < n) (h1 : namesO o n = nm) (hS : shpOk n S = true) (hes : S.es = allRows n) (hL : (List.range S.es.length).all (ltrRow n S nm tx) = true) (hO : ltrOne S tx = true) (hE : (List.range S.es.length).all (ltrEll n S nm tx) = true) : LawFacts o n := by
  subst h1
  unfold shpOk at hS
  rw [Bool.and_eq_true] at hS
  obtain ⟨hS1, hS2⟩ := hS
  let g : Nat → Str := fun i => tx.getD i Str.empty
  have inj : ∀ i j, i < S.es.length → j < S.es.length → g i = g j → i = j := fun i j hi hj e => by
    have := all_range (all_range hO hi) hj
    rw [show eqT (tx.getD i Str.empty) (tx.getD j Str.empty) = true from eqT_iff.mpr e] at this
    simpa using this
  have row : ∀ i, i < S.es.length → rowOk n (S.es.getD i []) ∧ floodI S.mv 20 [i] [i] = some (S.fl.getD i []) ∧ (S.fl.getD i []).Perm (S.told.getD i []) ∧ (S.told.getD i [] = (List.range S.es.length).filter fun j => (S.told.getD i []).contains j) ∧ (∀ j ∈ S.mv.getD i [], j < S.es.length) ∧ (S.mv.getD i []).length ≤ 20 ∧
      ∀ j, j < S.es.length → fitE n (S.ell.getD j []) (S.es.getD i []) = (S.told.getD i []).contains j := fun i hi => by
    have := all_range hS1 hi
    unfold shpRow at this
    simp only [Bool.and_eq_true, beq_iff_eq, List.isPerm_iff] at this
    obtain ⟨⟨⟨⟨⟨⟨q1, q2⟩, q3⟩, q4⟩, q5⟩, q7⟩, q6⟩ := this
    refine ⟨rowOkB_of q1, q2, q3, q4, fun j hj => of_decide_eq_true (List.all_eq_true.mp q5 j hj), of_decide_eq_true q7, fun j hj => ?_⟩
    exact beq_iff_eq.mp (all_range q6 hj)
  have ltr : ∀ i, i < S.es.length → rowF (S.es.getD i []) (namesO o n) = g i ∧ mOk (2 * n) (g i) = true ∧ mvs (2 * n) (g i) = (S.mv.getD i []).map g ∧ txOk (g i) = true := fun i hi => by
    have := all_range hL hi
    unfold ltrRow at this
    simp only [Bool.and_eq_true] at this
    obtain ⟨⟨⟨q1, q2⟩, q3⟩, q4⟩ := this
    exact ⟨eqT_iff.mp q1, q2, eqTs_iff q3, q4⟩
  have hmem : ∀ e ∈ allRows n, ∃ i, i < S.es.length ∧ S.es.getD i [] = e := fun e he => by
    rw [← hes] at he
    obtain ⟨i, hi, e2⟩ := List.getElem_of_mem he
    exact ⟨i, hi, by rw [List.getD, List.getElem?_eq_getElem hi]; exact e2⟩
  have htx : txsF o n = (List.range S.es.length).map g := by
    unfold txsF
    rw [← hes, map_get (d := [])]
    exact List.map_congr_left fun i hi => (ltr i (List.mem_range.mp hi)).1
  have hfit : ∀ i, i < S.es.length → ∀ j, j < S.es.length → fitsF (g j) (S.es.getD i []) (namesO o n) = (S.told.getD i []).contains j := fun i hi j hj => by
    rw [← (row i hi).2.2.2.2.2.2 j hj]
    refine fits_ell namesO_len (row i hi).1 fun k x hk hx hle => ?_
    have := all_range (all_range (all_range hE hj) hk) hx
    rw [decide_eq_false hle, Bool.false_or] at this
    exact beq_iff_eq.mp this
  have hfl : ∀ i, i < S.es.length → fitL o n (S.es.getD i []) = (S.told.getD i []).map g := fun i hi => by
    unfold fitL
    rw [htx, List.filter_map]
    conv => rhs; rw [(row i hi).2.2.2.1]
    congr 1
    refine List.filter_congr fun j hj => ?_
    exact hfit i hi j (List.mem_range.mp hj)
  have H : ∀ t, t < S.es.length → mOk (2 * n) (g t) = true ∧ mvs (2 * n) (g t) = (S.mv.getD t []).map g ∧ (S.mv.getD t []).length ≤ 20 ∧ ∀ i ∈ S.mv.getD t [], i < S.es.length := fun t ht => ⟨(ltr t ht).2.1, (ltr t ht).2.2.1, (row t ht).2.2.2.2.2.1, (row t ht).2.2.2.2.1⟩
  have hone : ∀ i, i < S.es.length → ∀ x ∈ [i], x < S.es.length := fun i hi x hx => by rw [List.mem_singleton.mp hx]; exact hi
  have hflood : ∀ i, i < S.es.length → floodOk (2 * n) 20 [g i] [g i] = true ∧ floodF (2 * n) 20 [g i] [g i] = (S.fl.getD i []).map g ∧ ∀ x ∈ S.fl.getD i [], x < S.es.length := fun i hi => flood_map (g := g) (r := [i]) (q := [i]) (by omega) inj H (hone i hi) (hone i hi) (row i hi).2.1
  have htold : ∀ i, i < S.es.length → ∀ x ∈ S.told.getD i [], x < S.es.length := fun i hi x hx => by
    rw [(row i hi).2.2.2.1] at hx
    exact List.mem_range.mp (List.mem_filter.mp hx).1
  have hflL : ∀ i, i < S.es.length → flL o n (S.es.getD i []) = (S.fl.getD i []).map g := fun i hi => by
    unfold flL
    rw [(ltr i hi).1]; exact (hflood i hi).2.1
  refine ⟨fun e he => ?_, fun x hx => ?_, fun e he => ?_, fun e he => ?_, fun a ha b hb => ?_⟩
  · obtain ⟨i, hi, rfl⟩ := hmem e he
    exact (row i hi).1
  · rw [htx] at hx
    obtain ⟨i, hi, rfl⟩ := List.mem_map.mp hx
    exact (ltr i (List.mem_range.mp hi)).2.2.2
  · obtain ⟨i, hi, rfl⟩ := hmem e he
    rw [(ltr i hi).1]
    exact (hflood i hi).1
  · obtain ⟨i, hi, rfl⟩ := hmem e he
    rw [hflL i hi, hfl i hi]
    exact (row i hi).2.2.1.map g
  · obtain ⟨i, hi, rfl⟩ := hmem a ha
    obtain ⟨j, hj, rfl⟩ := hmem b hb
    have := all_range (all_range hS2 hi) hj
    unfold shpPair at this
    obtain ⟨c, hc, e⟩ := List.any_eq_true.mp this
    rw [Bool.and_eq_true, beq_iff_eq, beq_iff_eq] at e
    have hc' := List.mem_range.mp hc
    rw [← e.1]
    refine ⟨?_, ?_⟩
    · rw [hfl i hi, hflL j hj, hfl c hc', ← e.2, List.filter_map]
      congr 1
      refine List.filter_congr fun t ht => ?_
      exact cont_map inj (hflood j hj).2.2 (htold i hi t ht)
    · rw [← hes, List.getD, List.getElem?_eq_getElem hc']
      exact List.getElem_mem hc'
end Mine
end

section
theorem Mine.top_off_PK : True := by
  w_top off
  trivial
local macro_rules | `(tactic| omega) => `(tactic| first | lia | omega (config := {}))
open PySem PySem.W PyProof.Rows
namespace Mine

noncomputable def shp4 : Shp := ⟨[[1, 2, 3, 4], [2, 2, 3, 4], [3, 2, 3, 4], [4, 2, 3, 4], [1, 3, 3, 4], [3, 3, 3, 4], [4, 3, 3, 4], [1, 4, 3, 4], [4, 4, 3, 4], [1, 2, 4, 4], [2, 2, 4, 4], [4, 2, 4, 4], [1, 4, 4, 4], [4, 4, 4, 4]],
  [[1, 4, 9], [2, 10], [5, 3], [6, 11], [5, 7], [6], [8], [8, 12], [13], [10, 12], [11], [13], [13], []],
  [[0, 1, 2, 3, 4, 5, 6, 7, 8, 9, 10, 11, 12, 13], [1, 2, 3, 5, 6, 8, 10, 11, 13], [2, 3, 5, 6, 8, 11, 13], [3, 6, 8, 11, 13], [4, 5, 6, 7, 8, 12, 13], [5, 6, 8, 13], [6, 8, 13], [7, 8, 12, 13], [8, 13], [9, 10, 11, 12, 13], [10, 11, 13], [11, 13], [12, 13], [13]],
  [[0, 1, 4, 9, 2, 10, 5, 7, 12, 3, 11, 6, 8, 13], [1, 2, 10, 5, 3, 11, 6, 13, 8], [2, 5, 3, 6, 11, 8, 13], [3, 6, 11, 8, 13], [4, 5, 7, 6, 8, 12, 13], [5, 6, 8, 13], [6, 8, 13], [7, 8, 12, 13], [8, 13], [9, 10, 12, 11, 13], [10, 11, 13], [11, 13], [12, 13], [13]],
  [[[false, false, false, false], [false, false, false, false], [false, false, false, false], [false, false, false, false]], [[false, true, false, false], [false, false, false, false], [false, false, false, false], [false, false, false, false]], [[false, true, true, false], [false, false, false, false], [false, false, false, false], [false, false, false, false]], [[false, true, true, true], [false, false, false, false], [false, false, false, false], [false, false, false, false]], [[false, false, false, false], [false, false, true, false], [false, false, false, false], [false, false, false, false]], [[false, true, true, false], [false, false, true, false], [false, false, false, false], [false, false, false, false]], [[false, true, true, true], [false, false, true, false], [false, false, false, false], [false, false, false, false]], [[false, false, false, false], [false, false, true, true], [false, false, false, false], [false, false, false, false]], [[false, true, true, true], [false, false, true, true], [false, false, false, false], [false, false, false, false]], [[false, false, false, false], [false, false, false, false], [false, false, false, true], [false, false, false, false]], [[false, true, false, false], [false, false, false, false], [false, false, false, true], [false, false, false, false]], [[false, true, true, true], [false, false, false, false], [false, false, false, true], [false, false, false, false]], [[false, false, false, false], [false, false, true, true], [false, false, false, true], [false, false, false, false]], [[false, true, true, true], [false, false, true, true], [false, false, false, true], [false, false, false, false]]]⟩
theorem shp4_ok : shpOk 4 shp4 = true := by decide +kernel
theorem shp4_es : shp4.es = allRows 4 := by decide +kernel
noncomputable def nm4_0 : List Str := [⟨#[97]⟩, ⟨#[32]⟩, ⟨#[35]⟩, ⟨#[98]⟩]
noncomputable def tx4_0 : List Str := [⟨#[40, 97, 41, 97, 40, 32, 41, 32, 40, 35, 41, 35, 40, 98, 41, 98]⟩, ⟨#[40, 97, 40, 32, 41, 32, 41, 97, 40, 35, 41, 35, 40, 98, 41, 98]⟩, ⟨#[40, 97, 40, 32, 41, 32, 40, 35, 41, 35, 41, 97, 40, 98, 41, 98]⟩, ⟨#[40, 97, 40, 32, 41, 32, 40, 35, 41, 35, 40, 98, 41, 98, 41, 97]⟩, ⟨#[40, 97, 41, 97, 40, 32, 40, 35, 41, 35, 41, 32, 40, 98, 41, 98]⟩, ⟨#[40, 97, 40, 32, 40, 35, 41, 35, 41, 32, 41, 97, 40, 98, 41, 98]⟩, ⟨#[40, 97, 40, 32, 40, 35, 41, 35, 41, 32, 40, 98, 41, 98, 41, 97]⟩, ⟨#[40, 97, 41, 97, 40, 32, 40, 35, 41, 35, 40, 98, 41, 98, 41, 32]⟩, ⟨#[40, 97, 40, 32, 40, 35, 41, 35, 40, 98, 41, 98, 41, 32, 41, 97]⟩, ⟨#[40, 97, 41, 97, 40, 32, 41, 32, 40, 35, 40, 98, 41, 98, 41, 35]⟩, ⟨#[40, 97, 40, 32, 41, 32, 41, 97, 40, 35, 40, 98, 41, 98, 41, 35]⟩, ⟨#[40, 97, 40, 32, 41, 32, 40, 35, 40, 98, 41, 98, 41, 35, 41, 97]⟩, ⟨#[40, 97, 41, 97, 40, 32, 40, 35, 40, 98, 41, 98, 41, 35, 41, 32]⟩, ⟨#[40, 97, 40, 32, 40, 35, 40, 98, 41, 98, 41, 35, 41, 32, 41, 97]⟩]
theorem facts4_0 : LawFacts 0 4 := facts_of (nm := nm4_0) (tx := tx4_0) (S := shp4) (by decide) (by decide +kernel) shp4_ok shp4_es (by decide +kernel) (by decide +kernel) (by decide +kernel)
noncomputable def nm4_1 : List Str := [⟨#[32]⟩, ⟨#[35]⟩, ⟨#[98]⟩, ⟨#[58]⟩]
noncomputable def tx4_1 : List Str := [⟨#[40, 32, 41, 32, 40, 35, 41, 35, 40, 98, 41, 98, 40, 58, 41, 58]⟩, ⟨#[40, 32, 40, 35, 41, 35, 41, 32, 40, 98, 41, 98, 40, 58, 41, 58]⟩, ⟨#[40, 32, 40, 35, 41, 35, 40, 98, 41, 98, 41, 32, 40, 58, 41, 58]⟩, ⟨#[40, 32, 40, 35, 41, 35, 40, 98, 41, 98, 40, 58, 41, 58, 41, 32]⟩, ⟨#[40, 32, 41, 32, 40, 35, 40, 98, 41, 98, 41, 35, 40, 58, 41, 58]⟩, ⟨#[40, 32, 40, 35, 40, 98, 41, 98, 41, 35, 41, 32, 40, 58, 41, 58]⟩, ⟨#[40, 32, 40, 35, 40, 98, 41, 98, 41, 35, 40, 58, 41, 58, 41, 32]⟩, ⟨#[40, 32, 41, 32, 40, 35, 40, 98, 41, 98, 40, 58, 41, 58, 41, 35]⟩, ⟨#[40, 32, 40, 35, 40, 98, 41, 98, 40, 58, 41, 58, 41, 35, 41, 32]⟩, ⟨#[40, 32, 41, 32, 40, 35, 41, 35, 40, 98, 40, 58, 41, 58, 41, 98]⟩, ⟨#[40, 32, 40, 35, 41, 35, 41, 32, 40, 98, 40, 58, 41, 58, 41, 98]⟩, ⟨#[40, 32, 40, 35, 41, 35, 40, 98, 40, 58, 41, 58, 41, 98, 41, 32]⟩, ⟨#[40, 32, 41, 32, 40, 35, 40, 98, 40, 58, 41, 58, 41, 98, 41, 35]⟩, ⟨#[40, 32, 40, 35, 40, 98, 40, 58, 41, 58, 41, 98, 41, 35, 41, 32]⟩]
theorem facts4_1 : LawFacts 1 4 := facts_of (nm := nm4_1) (tx := tx4_1) (S := shp4) (by decide) (by decide +kernel) shp4_ok shp4_es (by decide +kernel) (by decide +kernel) (by decide +kernel)
noncomputable def nm4_2 : List Str := [⟨#[35]⟩, ⟨#[98]⟩, ⟨#[58]⟩, ⟨#[45]⟩]
noncomputable def tx4_2 : List Str := [⟨#[40, 35, 41, 35, 40, 98, 41, 98, 40, 58, 41, 58, 40, 45, 41, 45]⟩, ⟨#[40, 35, 40, 98, 41, 98, 41, 35, 40, 58, 41, 58, 40, 45, 41, 45]⟩, ⟨#[40, 35, 40, 98, 41, 98, 40, 58, 41, 58, 41, 35, 40, 45, 41, 45]⟩, ⟨#[40, 35, 40, 98, 41, 98, 40, 58, 41, 58, 40, 45, 41, 45, 41, 35]⟩, ⟨#[40, 35, 41, 35, 40, 98, 40, 58, 41, 58, 41, 98, 40, 45, 41, 45]⟩, ⟨#[40, 35, 40, 98, 40, 58, 41, 58, 41, 98, 41, 35, 40, 45, 41, 45]⟩, ⟨#[40, 35, 40, 98, 40, 58, 41, 58, 41, 98, 40, 45, 41, 45, 41, 35]⟩, ⟨#[40, 35, 41, 35, 40, 98, 40, 58, 41, 58, 40, 45, 41, 45, 41, 98]⟩, ⟨#[40, 35, 40, 98, 40, 58, 41, 58, 40, 45, 41, 45, 41, 98, 41, 35]⟩, ⟨#[40, 35, 41, 35, 40, 98, 41, 98, 40, 58, 40, 45, 41, 45, 41, 58]⟩, ⟨#[40, 35, 40, 98, 41, 98, 41, 35, 40, 58, 40, 45, 41, 45, 41, 58]⟩, ⟨#[40, 35, 40, 98, 41, 98, 40, 58, 40, 45, 41, 45, 41, 58, 41, 35]⟩, ⟨#[40, 35, 41, 35, 40, 98, 40, 58, 40, 45, 41, 45, 41, 58, 41, 98]⟩, ⟨#[40, 35, 40, 98, 40, 58, 40, 45, 41, 45, 41, 58, 41, 98, 41, 35]⟩]
theorem facts4_2 : LawFacts 2 4 := facts_of (nm := nm4_2) (tx := tx4_2) (S := shp4) (by decide) (by decide +kernel) shp4_ok shp4_es (by decide +kernel) (by decide +kernel) (by decide +kernel)
noncomputable def nm4_3 : List Str := [⟨#[98]⟩, ⟨#[58]⟩, ⟨#[45]⟩, ⟨#[9]⟩]
noncomputable def tx4_3 : List Str := [⟨#[40, 98, 41, 98, 40, 58, 41, 58, 40, 45, 41, 45, 40, 9, 41, 9]⟩, ⟨#[40, 98, 40, 58, 41, 58, 41, 98, 40, 45, 41, 45, 40, 9, 41, 9]⟩, ⟨#[40, 98, 40, 58, 41, 58, 40, 45, 41, 45, 41, 98, 40, 9, 41, 9]⟩, ⟨#[40, 98, 40, 58, 41, 58, 40, 45, 41, 45, 40, 9, 41, 9, 41, 98]⟩, ⟨#[40, 98, 41, 98, 40, 58, 40, 45, 41, 45, 41, 58, 40, 9, 41, 9]⟩, ⟨#[40, 98, 40, 58, 40, 45, 41, 45, 41, 58, 41, 98, 40, 9, 41, 9]⟩, ⟨#[40, 98, 40, 58, 40, 45, 41, 45, 41, 58, 40, 9, 41, 9, 41, 98]⟩, ⟨#[40, 98, 41, 98, 40, 58, 40, 45, 41, 45, 40, 9, 41, 9, 41, 58]⟩, ⟨#[40, 98, 40, 58, 40, 45, 41, 45, 40, 9, 41, 9, 41, 58, 41, 98]⟩, ⟨#[40, 98, 41, 98, 40, 58, 41, 58, 40, 45, 40, 9, 41, 9, 41, 45]⟩, ⟨#[40, 98, 40, 58, 41, 58, 41, 98, 40, 45, 40, 9, 41, 9, 41, 45]⟩, ⟨#[40, 98, 40, 58, 41, 58, 40, 45, 40, 9, 41, 9, 41, 45, 41, 98]⟩, ⟨#[40, 98, 41, 98, 40, 58, 40, 45, 40, 9, 41, 9, 41, 45, 41, 58]⟩, ⟨#[40, 98, 40, 58, 40, 45, 40, 9, 41, 9, 41, 45, 41, 58, 41, 98]⟩]
theorem facts4_3 : LawFacts 3 4 := facts_of (nm := nm4_3) (tx := tx4_3) (S := shp4) (by decide) (by decide +kernel) shp4_ok shp4_es (by decide +kernel) (by decide +kernel) (by decide +kernel)
noncomputable def nm4_4 : List Str := [⟨#[58]⟩, ⟨#[45]⟩, ⟨#[9]⟩, ⟨#[44]⟩]
noncomputable def tx4_4 : List Str := [⟨#[40, 58, 41, 58, 40, 45, 41, 45, 40, 9, 41, 9, 40, 44, 41, 44]⟩, ⟨#[40, 58, 40, 45, 41, 45, 41, 58, 40, 9, 41, 9, 40, 44, 41, 44]⟩, ⟨#[40, 58, 40, 45, 41, 45, 40, 9, 41, 9, 41, 58, 40, 44, 41, 44]⟩, ⟨#[40, 58, 40, 45, 41, 45, 40, 9, 41, 9, 40, 44, 41, 44, 41, 58]⟩, ⟨#[40, 58, 41, 58, 40, 45, 40, 9, 41, 9, 41, 45, 40, 44, 41, 44]⟩, ⟨#[40, 58, 40, 45, 40, 9, 41, 9, 41, 45, 41, 58, 40, 44, 41, 44]⟩, ⟨#[40, 58, 40, 45, 40, 9, 41, 9, 41, 45, 40, 44, 41, 44, 41, 58]⟩, ⟨#[40, 58, 41, 58, 40, 45, 40, 9, 41, 9, 40, 44, 41, 44, 41, 45]⟩, ⟨#[40, 58, 40, 45, 40, 9, 41, 9, 40, 44, 41, 44, 41, 45, 41, 58]⟩, ⟨#[40, 58, 41, 58, 40, 45, 41, 45, 40, 9, 40, 44, 41, 44, 41, 9]⟩, ⟨#[40, 58, 40, 45, 41, 45, 41, 58, 40, 9, 40, 44, 41, 44, 41, 9]⟩, ⟨#[40, 58, 40, 45, 41, 45, 40, 9, 40, 44, 41, 44, 41, 9, 41, 58]⟩, ⟨#[40, 58, 41, 58, 40, 45, 40, 9, 40, 44, 41, 44, 41, 9, 41, 45]⟩, ⟨#[40, 58, 40, 45, 40, 9, 40, 44, 41, 44, 41, 9, 41, 45, 41, 58]⟩]
theorem facts4_4 : LawFacts 4 4 := facts_of (nm := nm4_4) (tx := tx4_4) (S := shp4) (by decide) (by decide +kernel) shp4_ok shp4_es (by decide +kernel) (by decide +kernel) (by decide +kernel)
noncomputable def nm4_5 : List Str := [⟨#[45]⟩, ⟨#[9]⟩, ⟨#[44]⟩, ⟨#[97]⟩]
noncomputable def tx4_5 : List Str := [⟨#[40, 45, 41, 45, 40, 9, 41, 9, 40, 44, 41, 44, 40, 97, 41, 97]⟩, ⟨#[40, 45, 40, 9, 41, 9, 41, 45, 40, 44, 41, 44, 40, 97, 41, 97]⟩, ⟨#[40, 45, 40, 9, 41, 9, 40, 44, 41, 44, 41, 45, 40, 97, 41, 97]⟩, ⟨#[40, 45, 40, 9, 41, 9, 40, 44, 41, 44, 40, 97, 41, 97, 41, 45]⟩, ⟨#[40, 45, 41, 45, 40, 9, 40, 44, 41, 44, 41, 9, 40, 97, 41, 97]⟩, ⟨#[40, 45, 40, 9, 40, 44, 41, 44, 41, 9, 41, 45, 40, 97, 41, 97]⟩, ⟨#[40, 45, 40, 9, 40, 44, 41, 44, 41, 9, 40, 97, 41, 97, 41, 45]⟩, ⟨#[40, 45, 41, 45, 40, 9, 40, 44, 41, 44, 40, 97, 41, 97, 41, 9]⟩, ⟨#[40, 45, 40, 9, 40, 44, 41, 44, 40, 97, 41, 97, 41, 9, 41, 45]⟩, ⟨#[40, 45, 41, 45, 40, 9, 41, 9, 40, 44, 40, 97, 41, 97, 41, 44]⟩, ⟨#[40, 45, 40, 9, 41, 9, 41, 45, 40, 44, 40, 97, 41, 97, 41, 44]⟩, ⟨#[40, 45, 40, 9, 41, 9, 40, 44, 40, 97, 41, 97, 41, 44, 41, 45]⟩, ⟨#[40, 45, 41, 45, 40, 9, 40, 44, 40, 97, 41, 97, 41, 44, 41, 9]⟩, ⟨#[40, 45, 40, 9, 40, 44, 40, 97, 41, 97, 41, 44, 41, 9, 41, 45]⟩]
theorem facts4_5 : LawFacts 5 4 := facts_of (nm := nm4_5) (tx := tx4_5) (S := shp4) (by decide) (by decide +kernel) shp4_ok shp4_es (by decide +kernel) (by decide +kernel) (by decide +kernel)
noncomputable def nm4_6 : List Str := [⟨#[9]⟩, ⟨#[44]⟩, ⟨#[97]⟩, ⟨#[32]⟩]
noncomputable def tx4_6 : List Str := [⟨#[40, 9, 41, 9, 40, 44, 41, 44, 40, 97, 41, 97, 40, 32, 41, 32]⟩, ⟨#[40, 9, 40, 44, 41, 44, 41, 9, 40, 97, 41, 97, 40, 32, 41, 32]⟩, ⟨#[40, 9, 40, 44, 41, 44, 40, 97, 41, 97, 41, 9, 40, 32, 41, 32]⟩, ⟨#[40, 9, 40, 44, 41, 44, 40, 97, 41, 97, 40, 32, 41, 32, 41, 9]⟩, ⟨#[40, 9, 41, 9, 40, 44, 40, 97, 41, 97, 41, 44, 40, 32, 41, 32]⟩, ⟨#[40, 9, 40, 44, 40, 97, 41, 97, 41, 44, 41, 9, 40, 32, 41, 32]⟩, ⟨#[40, 9, 40, 44, 40, 97, 41, 97, 41, 44, 40, 32, 41, 32, 41, 9]⟩, ⟨#[40, 9, 41, 9, 40, 44, 40, 97, 41, 97, 40, 32, 41, 32, 41, 44]⟩, ⟨#[40, 9, 40, 44, 40, 97, 41, 97, 40, 32, 41, 32, 41, 44, 41, 9]⟩, ⟨#[40, 9, 41, 9, 40, 44, 41, 44, 40, 97, 40, 32, 41, 32, 41, 97]⟩, ⟨#[40, 9, 40, 44, 41, 44, 41, 9, 40, 97, 40, 32, 41, 32, 41, 97]⟩, ⟨#[40, 9, 40, 44, 41, 44, 40, 97, 40, 32, 41, 32, 41, 97, 41, 9]⟩, ⟨#[40, 9, 41, 9, 40, 44, 40, 97, 40, 32, 41, 32, 41, 97, 41, 44]⟩, ⟨#[40, 9, 40, 44, 40, 97, 40, 32, 41, 32, 41, 97, 41, 44, 41, 9]⟩]
theorem facts4_6 : LawFacts 6 4 := facts_of (nm := nm4_6) (tx := tx4_6) (S := shp4) (by decide) (by decide +kernel) shp4_ok shp4_es (by decide +kernel) (by decide +kernel) (by decide +kernel)
noncomputable def nm4_7 : List Str := [⟨#[44]⟩, ⟨#[97]⟩, ⟨#[32]⟩, ⟨#[35]⟩]
noncomputable def tx4_7 : List Str := [⟨#[40, 44, 41, 44, 40, 97, 41, 97, 40, 32, 41, 32, 40, 35, 41, 35]⟩, ⟨#[40, 44, 40, 97, 41, 97, 41, 44, 40, 32, 41, 32, 40, 35, 41, 35]⟩, ⟨#[40, 44, 40, 97, 41, 97, 40, 32, 41, 32, 41, 44, 40, 35, 41, 35]⟩, ⟨#[40, 44, 40, 97, 41, 97, 40, 32, 41, 32, 40, 35, 41, 35, 41, 44]⟩, ⟨#[40, 44, 41, 44, 40, 97, 40, 32, 41, 32, 41, 97, 40, 35, 41, 35]⟩, ⟨#[40, 44, 40, 97, 40, 32, 41, 32, 41, 97, 41, 44, 40, 35, 41, 35]⟩, ⟨#[40, 44, 40, 97, 40, 32, 41, 32, 41, 97, 40, 35, 41, 35, 41, 44]⟩, ⟨#[40, 44, 41, 44, 40, 97, 40, 32, 41, 32, 40, 35, 41, 35, 41, 97]⟩, ⟨#[40, 44, 40, 97, 40, 32, 41, 32, 40, 35, 41, 35, 41, 97, 41, 44]⟩, ⟨#[40, 44, 41, 44, 40, 97, 41, 97, 40, 32, 40, 35, 41, 35, 41, 32]⟩, ⟨#[40, 44, 40, 97, 41, 97, 41, 44, 40, 32, 40, 35, 41, 35, 41, 32]⟩, ⟨#[40, 44, 40, 97, 41, 97, 40, 32, 40, 35, 41, 35, 41, 32, 41, 44]⟩, ⟨#[40, 44, 41, 44, 40, 97, 40, 32, 40, 35, 41, 35, 41, 32, 41, 97]⟩, ⟨#[40, 44, 40, 97, 40, 32, 40, 35, 41, 35, 41, 32, 41, 97, 41, 44]⟩]
theorem facts4_7 : LawFacts 7 4 := facts_of (nm := nm4_7) (tx := tx4_7) (S := shp4) (by decide) (by decide +kernel) shp4_ok shp4_es (by decide +kernel) (by decide +kernel) (by decide +kernel)
noncomputable def shp3 : Shp := ⟨[[1, 2, 3], [2, 2, 3], [3, 2, 3], [1, 3, 3], [3, 3, 3]],
  [[1, 3], [2], [4], [4], []],
  [[0, 1, 2, 3, 4], [1, 2, 4], [2, 4], [3, 4], [4]],
  [[0, 1, 3, 2, 4], [1, 2, 4], [2, 4], [3, 4], [4]],
  [[[false, false, false], [false, false, false], [false, false, false]], [[false, true, false], [false, false, false], [false, false, false]], [[false, true, true], [false, false, false], [false, false, false]], [[false, false, false], [false, false, true], [false, false, false]], [[false, true, true], [false, false, true], [false, false, false]]]⟩
theorem shp3_ok : shpOk 3 shp3 = true := by decide +kernel
theorem shp3_es : shp3.es = allRows 3 := by decide +kernel
noncomputable def nm3_0 : List Str := [⟨#[97]⟩, ⟨#[32]⟩, ⟨#[35]⟩]
noncomputable def tx3_0 : List Str := [⟨#[40, 97, 41, 97, 40, 32, 41, 32, 40, 35, 41, 35]⟩, ⟨#[40, 97, 40, 32, 41, 32, 41, 97, 40, 35, 41, 35]⟩, ⟨#[40, 97, 40, 32, 41, 32, 40, 35, 41, 35, 41, 97]⟩, ⟨#[40, 97, 41, 97, 40, 32, 40, 35, 41, 35, 41, 32]⟩, ⟨#[40, 97, 40, 32, 40, 35, 41, 35, 41, 32, 41, 97]⟩]
theorem facts3_0 : LawFacts 0 3 := facts_of (nm := nm3_0) (tx := tx3_0) (S := shp3) (by decide) (by decide +kernel) shp3_ok shp3_es (by decide +kernel) (by decide +kernel) (by decide +kernel)
theorem law_facts {o n : Nat} (h : n = 4 ∧ o < 8 ∨ n = 3 ∧ o = 0) : LawFacts o n := by
  rcases h with ⟨rfl, ho⟩ | ⟨rfl, rfl⟩
  · match o, ho with
    | 0, _ => exact facts4_0
    | 1, _ => exact facts4_1
    | 2, _ => exact facts4_2
    | 3, _ => exact facts4_3
    | 4, _ => exact facts4_4
    | 5, _ => exact facts4_5
    | 6, _ => exact facts4_6
    | 7, _ => exact facts4_7
  · exact facts3_0
end Mine
end

section
theorem Mine.top_off_LT : True := by
  w_top off
  trivial
local macro_rules | `(tactic| omega) => `(tactic| first | lia | omega (config := {}))
open PySem PySem.W PyProof.Rows PySem.Spec PySem.Calls
namespace Mine
open PyProof.Rows.LCg (lst lst_snoc NsObj ns_obj fr_but news_but)
theorem ints_three {cv : List Value} {a b c : Int} (h : IntsAre cv [a, b, c]) : ∃ t0 t1 t2, cv = [.int a t0, .int b t1, .int c t2] := by
  cases h with
  | cons _ t0 h => cases h with
    | cons _ t1 h => cases h with
      | cons _ t2 h => cases h; exact ⟨t0, t1, t2, rfl⟩
theorem rowAt_mem {n : Nat} {c : Int} (hn : n = 4 ∨ n = 3) : rowAt n c ∈ allRows n := by
  have hK : 0 < (allRows n).length := by
    rcases hn with rfl | rfl
    · rw [rows_len.1]; decide
    · rw [rows_len.2]; decide
  have h1 := Int.fmod_nonneg_of_pos c (show (0 : Int) < ((allRows n).length : Nat) by omega)
  have h2 := Int.fmod_lt_of_pos c (show (0 : Int) < ((allRows n).length : Nat) by omega)
  have hi : (Int.fmod c ((allRows n).length : Nat)).toNat < (allRows n).length := by omega
  unfold rowAt
  rw [List.getD, List.getElem?_eq_getElem hi]
  exact List.getElem_mem _
theorem law_body {prog : Program} {w : World} {s : Shared} {p : Program} {loose : List Str} {mean : ExcName → Option Value} {mg mb : Str → Option Value} {Q : Flow → Shared → Prop} {E : Value → Shared → Prop}
    {h₀ : Heap} {L fa sa : Addr} {cd : Value} {svs : List Value} {ns : List Int} {o1 o2 o3 o4 o5 o6 : Obj}
    (X : (hd.heap_39 w.params).In h₀) (T : Top p loose mean mg mb h₀) (C : CodeHd h₀ 90 86) (hI : IntsAre svs ns) (hn : ns.length ≤ 63) (hl : h₀.IsList sa svs.toArray)
    (l0 : @LT.lt Nat _ 86 L) (d1 : o1.data = .cell none) (d2 : o2.data = .cell none) (d3 : o3.data = .cell none) (d4 : o4.data = .cell none) (d5 : o5.data = .cell none) (d6 : o6.data = .cell none)
    (F : Fr h₀ L s.heap (fun y => if y = Str.ofString "script" then some (.ref sa) else none)) (N : News h₀ L s.heap (lawLed L o1 o2 o3 o4 o5 o6 #[]))
    (ret : ∀ h' tk g m' ps, Fr h₀ L h' m' → News h₀ L h' [(86, tabObj ps)] → (AllBare s.gens → AllBare g) → Q (.ret (.bool true)) { s with heap := h', toks := tk, gens := g }) :
    wpAny (model prog w) (AM 1) (execs lawBody (lawEnv L fa cd)) Q E s := by
  refine st1 X T hI hn hl l0 d6 F N ?_
  intros h₁ tk₁ g₁ ca cv cn p6 F₁ N₁ e6 hcv lca hg₁
  obtain ⟨c0, c1, c2, hc, b0, b1, b2, hshort⟩ := cells_three ns
  rw [hc] at hcv
  obtain ⟨t0, t1, t2, rfl⟩ := ints_three hcv
  refine st2 X T hI hn hl F₁ N₁ ?_
  intros h₂ tk₂ n tn hn2 F₂ N₂
  have hn4 : n ≤ 4 := by omega
  have hn0 : 0 < n := by omega
  have hn34 : n = 4 ∨ n = 3 := by omega
  have len64 : (allRows n).length ≤ 64 := by
    rcases hn34 with rfl | rfl
    · rw [rows_len.1]; decide
    · rw [rows_len.2]; decide
  have LF : LawFacts (c2 % 8).toNat n := law_facts (by
    rcases hn2 with rfl | ⟨rfl, hs⟩
    · exact .inl ⟨rfl, by omega⟩
    · exact .inr ⟨rfl, by rw [hshort hs]; rfl⟩)
  have m0 : (fun y => if y = Str.ofString "count" then some (Value.int n tn) else if y = Str.ofString "script" then some (Value.ref sa) else none) (Str.ofString "count") = some (Value.int n tn) := if_pos rfl
  generalize (fun y => if y = Str.ofString "count" then some (Value.int n tn) else if y = Str.ofString "script" then some (Value.ref sa) else none) = m₂ at *
  refine st3 X T b2 hn4 l0 lca d5 e6 m0 F₂ N₂ ?_
  intros h₃ tk₃ g₃ na nv nn p5 F₃ N₃ e5 hnv hcn hno hg₃
  refine st4 (fx := [(na, W.listOf nv.toArray nn), (ca, W.listOf #[.int c0 t0, .int c1 t1, .int c2 t2] cn)]) X T hn4 l0 d4 (List.forall_mem_cons.mpr ⟨hno, List.forall_mem_cons.mpr ⟨by refine ⟨?_, ?_, ?_, ?_, ?_, ?_, ?_⟩ <;> (dsimp only; omega), List.forall_mem_nil _⟩⟩) m0 F₃ (fun p hp => by
    rcases List.mem_append.mp hp with hp | hp
    · exact N₃ p (.tail _ (.tail _ hp))
    rcases List.mem_cons.mp hp with rfl | hp
    · exact N₃ _ (.head _)
    · rw [List.mem_singleton.mp hp]; exact N₃ _ (.tail _ (.head _))) ?_
  intros h₄ tk₄ g₄ fx₄ ea ev en p4 F₄ N₄ f₄ u₄ e4 hea hev hg₄
  refine st5 X T hn34 l0 e4 e6 f₄ (u₄ _ (.tail _ (.head _))) hea hev b0 b1 F₄ N₄ ?_
  intros h₅ tk₅ g₅ fx₅ la lv ln F₅ N₅ f₅ u₅ hla hlv hg₅
  have a0 := rowAt_mem (c := c0) hn34
  have a1 := rowAt_mem (c := c1) hn34
  generalize rowAt n c0 = r0 at *
  generalize rowAt n c1 = r1 at *
  have m5 : (fun z => if z = Str.ofString "lower" then some (Value.ref la) else m₂ z) (Str.ofString "lower") = some (Value.ref la) := if_pos rfl
  generalize (fun z => if z = Str.ofString "lower" then some (Value.ref la) else m₂ z) = m₅ at *
  refine st6 X T hn4 l0 e5 f₅ m5 hla hlv (u₅ _ (u₄ _ (.head _))) hnv (List.forall_mem_cons.mpr ⟨(LF.row _ a0).1, List.forall_mem_cons.mpr ⟨(LF.row _ a1).1, List.forall_mem_nil _⟩⟩) (Nat.le_of_ble_eq_true rfl) F₅ N₅ ?_
  intros h₆ tk₆ g₆ fx₆ ss sv sn F₆ N₆ f₆ u₆ hsa hsv hg₆
  have m6 : (fun z => if z = Str.ofString "starts" then some (Value.ref ss) else m₅ z) (Str.ofString "starts") = some (Value.ref ss) := if_pos rfl
  have m6' : (fun z => if z = Str.ofString "starts" then some (Value.ref ss) else m₅ z) (Str.ofString "lower") = some (Value.ref la) := (if_neg (by decide)).trans m5
  generalize (fun z => if z = Str.ofString "starts" then some (Value.ref ss) else m₅ z) = m₆ at *
  have hsv2 : StrsAre sv [rowF r0 (namesO (c2 % 8).toNat n), rowF r1 (namesO (c2 % 8).toNat n)] := hsv
  have k0 : txOk (rowF r0 (namesO (c2 % 8).toNat n)) = true := LF.tx _ (List.mem_map_of_mem (f := fun e => rowF e (namesO (c2 % 8).toNat n)) a0)
  have k1 : txOk (rowF r1 (namesO (c2 % 8).toNat n)) = true := LF.tx _ (List.mem_map_of_mem (f := fun e => rowF e (namesO (c2 % 8).toNat n)) a1)
  refine st7 X T C l0 d3 e6 f₆ m6 (u₆ _ (u₅ _ (u₄ _ (.tail _ (.head _))))) b2 hsa hsv2 k0 k1 F₆ N₆ ?_
  intros h₇ tk₇ g₇ p3 ps l tl tp nl F₇ N₇ hok hlo hlf e3 hg₇
  refine st8 X T l0 e3 f₆ hok hlo hlf k0 k1 F₇ N₇ ?_
  intros h₈ tk₈ ha ta tb hn8 tl₈ tp₈ nl₈ F₈ N₈ ho₈ hp₈
  have m8 : (fun z => if z = Str.ofString "heard" then some (Value.ref ha) else m₆ z) (Str.ofString "heard") = some (Value.ref ha) := if_pos rfl
  have m8' : (fun z => if z = Str.ofString "heard" then some (Value.ref ha) else m₆ z) (Str.ofString "lower") = some (Value.ref la) := (if_neg (by decide)).trans m6'
  have m8'' : (fun z => if z = Str.ofString "heard" then some (Value.ref ha) else m₆ z) (Str.ofString "starts") = some (Value.ref ss) := (if_neg (by decide)).trans m6
  generalize (fun z => if z = Str.ofString "heard" then some (Value.ref ha) else m₆ z) = m₈ at *
  refine st9 X T k0 k1 (List.mem_append_right _ (List.mem_append_right _ (.head _))) (List.mem_append_right _ (List.mem_append_right _ (.tail _ hsa))) hsv2 m8 m8'' F₈ N₈ ?_
  intros h₉ tk₉ F₉ N₉
  have hxl := wordsF_len (b := bareAt c2) (txOk_list k0).2.1 (txOk_list k1).2.1
  have f₉ : FxOff L ((ha, W.listOf #[.str (rowF r0 (namesO (c2 % 8).toNat n)) ta, .str (rowF r1 (namesO (c2 % 8).toNat n)) tb] hn8) :: fx₆) := List.forall_mem_cons.mpr ⟨ho₈, f₆⟩
  refine st10 (n := 2 * n) X T (by omega) (Nat.le_trans hxl (by decide)) (words_line k0 k1) l0 d2 e3 f₉ hok hlo (List.forall_mem_cons.mpr ⟨hp₈, hlf⟩) (.head _) m8 (LF.ok _ a0) (LF.ok _ a1) F₉ N₉ ?_
  intros h₁₀ tk₁₀ g₁₀ fx₁₀ ra rv rn p2 t5 F₁₀ N₁₀ f₁₀ u₁₀ e2 hra hrv hxi hdx hg₁₀
  have v₁₀ : ∀ p ∈ fx₄, p ∈ fx₁₀ := fun p hp => u₁₀ _ (.tail _ (u₆ _ (u₅ _ hp)))
  refine st11 (o := (c2 % 8).toNat) (n := n) X T hn4 l0 d1 e4 e5 f₁₀ (v₁₀ _ hea) (hev.mono v₁₀) (v₁₀ _ (u₄ _ (.head _))) hnv (fun e he => (LF.row e he).1) len64 F₁₀ N₁₀ ?_
  intros h₁₁ tk₁₁ g₁₁ fx₁₁ wa wv wn p1 F₁₁ N₁₁ f₁₁ u₁₁ e1 hwa hwv hg₁₁
  have v₁₁ : ∀ p ∈ fx₅, p ∈ fx₁₁ := fun p hp => u₁₁ _ (u₁₀ _ (.tail _ (u₆ _ hp)))
  refine st12 X T hn4 hn0 l0 f₁₁ m8' (v₁₁ _ hla) (hlv.mono v₁₁) (LF.row _ a0) (LF.row _ a1) F₁₁ N₁₁ ?_
  intros h₁₂ tk₁₂ g₁₂ fx₁₂ ga gv gn F₁₂ N₁₂ f₁₂ u₁₂ hga hgv hg₁₂
  have m12 : (fun z => if z = Str.ofString "least" then some (Value.ref ga) else m₈ z) (Str.ofString "least") = some (Value.ref ga) := if_pos rfl
  have m12' : (fun z => if z = Str.ofString "least" then some (Value.ref ga) else m₈ z) (Str.ofString "lower") = some (Value.ref la) := (if_neg (by decide)).trans m8'
  generalize (fun z => if z = Str.ofString "least" then some (Value.ref ga) else m₈ z) = m₁₂ at *
  obtain ⟨hpair, hleast⟩ := LF.pair _ a0 _ a1
  have htl : (txsF (c2 % 8).toNat n).length ≤ 64 := by
    rw [List.length_map]
    rcases hn34 with rfl | rfl
    · rw [rows_len.1]; decide
    · rw [rows_len.2]; decide
  refine st13 (o := (c2 % 8).toNat) (n := n) (txs := txsF (c2 % 8).toNat n) X T hn4 l0 e1 e5 f₁₂ m12' m12 (u₁₂ _ (v₁₁ _ hla)) (hlv.mono fun p hp => u₁₂ _ (v₁₁ _ hp)) hga hgv (LF.row _ a0) (LF.row _ a1) (LF.row _ hleast) (u₁₂ _ (v₁₁ _ (u₅ _ (u₄ _ (.head _))))) hnv (u₁₂ _ hwa) hwv LF.tx htl F₁₂ N₁₂ ?_
  intros h₁₃ tk₁₃ g₁₃ fx₁₃ da dv dn F₁₃ N₁₃ f₁₃ u₁₃ hda hdv hg₁₃
  have m13 : (fun z => if z = Str.ofString "told" then some (Value.ref da) else m₁₂ z) (Str.ofString "told") = some (Value.ref da) := if_pos rfl
  generalize (fun z => if z = Str.ofString "told" then some (Value.ref da) else m₁₂ z) = m₁₃ at *
  have hdv2 : TextsIn fx₁₃ dv [fitL (c2 % 8).toNat n r0, fitL (c2 % 8).toNat n r1, fitL (c2 % 8).toNat n (grownF (List.zipWith max r0 r1))] := hdv
  have w₁₃ : ∀ p ∈ fx₁₀, p ∈ fx₁₃ := fun p hp => u₁₃ _ (u₁₂ _ (u₁₁ _ hp))
  have lenF : ∀ e, (fitL (c2 % 8).toNat n e).length ≤ (txsF (c2 % 8).toNat n).length := fun e => List.length_filter_le _ _
  have len14 : (txsF (c2 % 8).toNat n).length ≤ 14 := by
    rw [List.length_map]
    rcases hn34 with rfl | rfl
    · rw [rows_len.1]; decide
    · rw [rows_len.2]; decide
  have cpF : ∀ e, ∀ x ∈ fitL (c2 % 8).toNat n e, cpsOk x = true := fun e x hx => cpsOk_of (LF.tx _ (List.mem_filter.mp hx).1)
  have q0 := LF.perm _ a0
  have q1 := LF.perm _ a1
  refine st14 X T l0 e2 m13 (w₁₃ _ hra) (hrv.mono w₁₃) hda hdv2 q0 q1 (fun x hx => cpF r0 x (q0.mem_iff.mp hx)) (fun x hx => cpF r1 x (q1.mem_iff.mp hx)) (by rw [q0.length_eq]; have := lenF r0; omega) (by rw [q1.length_eq]; have := lenF r1; omega) F₁₃ N₁₃ ?_
  intros h₁₄ tk₁₄ g₁₄ F₁₄ N₁₄ hg₁₄
  refine st15 X T l0 e2 e3 m13 (w₁₃ _ hra) (hrv.mono w₁₃) hda hdv2 (w₁₃ _ hxi) (w₁₃ _ hdx) hpair (fun x hx => cpF _ x hx) (by have := lenF r0; omega) (by rw [q1.length_eq]; have := lenF r1; omega) F₁₄ N₁₄ ?_
  intros h₁₅ tk₁₅ g₁₅ F₁₅ N₁₅ hg₁₅
  exact ret _ _ _ _ ps F₁₅ (fun p hp => N₁₅ p (by rw [List.mem_singleton.mp hp]; exact List.mem_append_left _ (.tail _ (.tail _ (.tail _ (.tail _ (.tail _ (.tail _ (.head _)))))))))
    (fun b => hg₁₅ (hg₁₄ (hg₁₃ (hg₁₂ (hg₁₁ (hg₁₀ (hg₇ (hg₆ (hg₅ (hg₄ (hg₃ (hg₁ b))))))))))))
end Mine
end

section
theorem Mine.top_off_LU : True := by
  w_top off
  trivial
local macro_rules | `(tactic| omega) => `(tactic| first | lia | omega (config := {}))
open PySem PySem.W PyProof.Rows PySem.Spec PySem.Calls
namespace Mine
/-- the end of a law that leaves generators behind -/
theorem post_bare {M : Model} {A : Around} {cd : Code} {s s₁ : Shared} {cw : ClaimW} {cl : Str → Option Addr} {mean : ExcName → Option Value} {args : List WData} {tabs : List (Addr × Addr)} (hT : TabsAt tabs s₁.heap) (hr : ∀ a x, cw.raises a x = false) (hp : cw.post args (.bool true) args = true)
    (h : codeAny M A cd (fun r s' => r = .ok (.ret (.bool true)) ∧ (∀ b o, (ghostOf s₁.heap tabs).get? b = some o → s'.heap.get? b = some o) ∧ s'.os = s₁.os ∧ AllBare s'.gens ∧ GrownAll tabs s'.heap) s) : codeAny M A cd (GoodWG cw cl mean args s₁) s :=
  codeAny_mono h fun r s' ⟨hc, hk, hos, hg, hgr⟩ => by
    have keep : ∀ b o, b ∉ tabs.map (·.2) → s₁.heap.get? b = some o → s'.heap.get? b = some o := fun b o hb e => hk b o (ghost_ne e hb)
    have grown : ∀ b o, b ∈ tabs.map (·.2) → s₁.heap.get? b = some o → isCodeTable s₁.heap b ∧ o = tabObj #[] ∧ ∃ ps, s'.heap.get? b = some (tabObj ps) := fun b o hb e => by
      obtain ⟨q, hq, rfl⟩ := List.mem_map.mp hb
      have e2 := (hT q hq).2
      rw [e] at e2
      exact ⟨((hT q hq).1.tab (hT q hq).2).isCodeTable, Option.some.inj e2, hgr.get q hq⟩
    refine ⟨.inl ⟨.bool true, .bool true, [], hc, fun c => hr _ c, .bool true, hp, unshared_nil⟩, ⟨fun b o e => ?_, fun b o e => ?_⟩, hos, hg⟩
    · by_cases hb : b ∈ tabs.map (·.2)
      · obtain ⟨ht, rfl, ps, hP⟩ := grown b o hb e
        exact .inr (.inl ⟨ht, rfl, #[], ps, rfl, by rw [Array.empty_append]; exact hP⟩)
      · exact .inl (keep b o hb e)
    · by_cases hb : b ∈ tabs.map (·.2)
      · obtain ⟨_, _, ps, hP⟩ := grown b o hb e
        exact ⟨_, hP⟩
      · exact ⟨o, keep b o hb e⟩
theorem law_holds : PySem.Challenge.rw_re0068_01.Holds := hd (by
  k_fill
  intros w s₀ s₁ mg mb G Y fa o pm cd doc dV kV ho hd hcd hD hmg hg args vals as hpre hlay hrd hwl hlo
  have KX := km_in_of Y
  km_tabs Y
  have X := (Ground.X G).1
  have V := (Ground.X G).2
  refine Ground.open G ?_
  intros T B D TE TW
  try (refine guard_noD D (by decide +kernel) ?_; clear D)
  km_lay T hmg ho hd cd
  clear hmg
  wrow_args hpre hlay hrd hwl hlo
  all_goals (first | refine callC_kw (enter_call ?_) | refine enter_call ?_)
  w_top on
  refine post_bare hT9 (fun _ _ => rfl) ?_ ?_
  · wrow_post
  w_call any ho hd hcd hD T F
  clear hd
  kn_ghosts F T
  k_drop
  skip
  rename_i ns hs hlay0 hL1 hr1 hl2 w10 w9 sa svs w6 hLs ra w1 r0 hI hr hn63 hct h₁ tk₁ o1 o2 o3 o4 o5 o6 d1 d2 d3 d4 d5 d6 CA X' T' K' F' N' l0
  replace d1 : o1.data = .cell none := d1
  replace d2 : o2.data = .cell none := d2
  replace d3 : o3.data = .cell none := d3
  replace d4 : o4.data = .cell none := d4
  replace d5 : o5.data = .cell none := d5
  replace d6 : o6.data = .cell none := d6
  replace codeHd : CodeHd (ghostOf s₁.heap [(90, 86)]) 90 86 := codeHd
  replace F' : Fr (ghostOf s₁.heap [(90, 86)]) s₁.heap.objs.size h₁ (fun y => if y = Str.ofString "script" then some (.ref sa) else none) := F'
  have hlen63 : ns.length ≤ 63 := by omega
  refine am_weak (n := 1) (law_body (s := { s₁ with heap := h₁, toks := tk₁ }) X' T' codeHd hI hlen63 lifted l0 d1 d2 d3 d4 d5 d6 F' N' ?_) rfl (Nat.le_of_ble_eq_true rfl) (Nat.le_of_ble_eq_true rfl)
  intros h' tk g m' ps F9 N9 hgg
  exact ⟨rfl, F9.keep, rfl, hgg (.of_eq hg), GrownAt.of N9 (.head _), True.intro⟩)
end Mine
end

end

theorem PySem.Challenge.cw_re0068_01_holds : PySem.Challenge.rw_re0068_01.Holds := by
  exact Mine.law_holds
