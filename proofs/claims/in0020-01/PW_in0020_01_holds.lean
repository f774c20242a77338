import PyProof.Rows.All
import Wide.All
import OpenK.AllK
import Wide.FinOn
import PySem.Challenge.RW_in0020_01
set_option Elab.async false
set_option rowWalk.seconds 0
set_option maxRecDepth 100000
set_option linter.unusedVariables false
set_option linter.unusedSimpArgs false
set_option linter.unusedSectionVars false
set_option linter.deprecated false

section
open PySem PySem.W PyProof.Rows
namespace Mine
/-- the head's statements that stay as they are -/
def topView : Program := { PySem.Challenge.pw_in0020_01 with main := { (PySem.Challenge.pw_in0020_01).main with body := [0,5,7,8,10,12,13,14,15,16].filterMap fun i => (PySem.Challenge.pw_in0020_01).main.body[i]? } }
theorem topRows {P : World → Prop} (a : ∀ w : World, P ((w.withFollow "special-get-raises" false).withFollow "comprehension-iter-twice" false)) (b : ∀ w : World, P ((w.withFollow "special-get-raises" true).withFollow "comprehension-iter-twice" false))
    (c : ∀ w : World, P ((w.withFollow "special-get-raises" false).withFollow "comprehension-iter-twice" true)) (d : ∀ w : World, P ((w.withFollow "special-get-raises" true).withFollow "comprehension-iter-twice" true)) : ∀ w, P w :=
  byRow2 "comprehension-iter-twice" (fun w => byRow2 (P := fun w => P (w.withFollow "comprehension-iter-twice" false)) "special-get-raises" a b w) (fun w => byRow2 (P := fun w => P (w.withFollow "comprehension-iter-twice" true)) "special-get-raises" c d w)
end Mine
set_option maxHeartbeats 0


local macro_rules | `(tactic| o_law) => `(tactic| refine holds_law (by decide +kernel) fun said => ?_)
section
theorem Mine.fake {P : Prop} (_ : (PySem.Challenge.rw_in0020_01.row.toRowW).promised) (hc : ∀ p : Prop, p) : P := hc P
local macro_rules | `(tactic| o_head $_) => `(tactic| refine Mine.fake ?hw ?hc)
open_top Mine.du for PySem.Challenge.rw_in0020_01
end
namespace Mine
def topLoose : List Str := [Str.ofString "insort_right", Str.ofString "bisect_right", Str.ofString "bisect_left", Str.ofString "_twin_re_1", Str.ofString "_special_chars_map"]
def topAs : List Addr := [2, 3, 6, 11, 12, 32, 33, 34, 36, 37, 39, 40, 41, 42, 43, 45, 46, 48, 49, 50, 51, 52, 54, 55, 57, 58, 62, 63, 65, 69, 71, 72, 74, 75, 76, 78, 79, 81, 82, 83, 86, 87, 88, 91, 92, 93, 95, 96, 98, 99, 100, 102, 103, 105, 106, 107, 110, 111]
def topTs : List Addr := [101, 77]
def topX (s : Shared) : Bool := xlAt Mine.topView ([] : List (Str × WData)) s && recOk (RowW.records (PySem.Challenge.rw_in0020_01.row.toRowW)) s
def TopRun (b c : Bool) : Prop := ∀ w : World, (fun w : World => (openEnds treeTable PySem.Challenge.pw_in0020_01 w 3554).map (fun s => (openSeen topView topLoose (importedModules PySem.Challenge.pw_in0020_01.main.body) topX true s, (topAs.map s.heap.get?, topTs.map s.heap.get?))) = some (openGood topView topLoose, ((Mine.du.heap_1 w.params).map fun p => some p.2, topTs.map fun _ => some (tabObj #[])))) ((w.withFollow "special-get-raises" b).withFollow "comprehension-iter-twice" c)
theorem topRun_ff : TopRun false false := by
  intro w
  kernel_rfl
theorem topRun_tf : TopRun true false := by
  intro w
  kernel_rfl
theorem topRun_ft : TopRun false true := by
  intro w
  kernel_rfl
theorem topRun_tt : TopRun true true := by
  intro w
  kernel_rfl
theorem topLeft {K : Params → Frag} (hK : K = Mine.du.heap_1) {as ts : List Addr} (ha : as = topAs) (ht : ts = topTs) (e : ∀ P, as = (K P).map (·.1)) :
    LeftO PySem.Challenge.pw_in0020_01 topView topLoose topX (Hook.obs (kmHook K as e ts)) (Hook.val (kmHook K as e ts)) 3554 := by
  subst hK ha ht
  exact topRows topRun_ff topRun_tf topRun_ft topRun_tt
end Mine
local macro_rules | `(tactic| o_head $H) => `(tactic| (
  refine holds_open (q := Mine.topView) (loose := Mine.topLoose) (Xt := Mine.topX) (XP := XL Mine.topView ([] : List (Str × WData))) (Yf := Hook.obs $H) (Ya := Hook.val $H) (YP := Hook.says $H) (N := 3554) ?hl (Hook.of $H) (Hook.keeps $H) (fun s e => xl_of s (Bool.and_eq_true_iff.mp e).1) XL.keeps (by rfl) (by rfl) (by rfl) (fun s e => recFacts_of (Bool.and_eq_true_iff.mp e).2) (by rfl) (by first | assumption | decide +kernel) (by decide +kernel) ⟨rfl, rfl, rfl, rfl, rfl, by decide +kernel⟩ ?hw ?hc
  case hl => exact Mine.topLeft rfl rfl rfl _))
open_top Mine.hd for PySem.Challenge.rw_in0020_01
end

theorem Mine.quiet_HD : True := by
  w_top off
  trivial

section
open PySem PySem.W PyProof.Rows PySem.Calls
namespace Mine
noncomputable abbrev PR := PySem.Challenge.pw_in0020_01

/-- the ground: what the top left -/
structure Gnd (w : World) (h : Heap) : Prop where
  x : (hd.heap_1 w.params).In h
  t : ∃ p loose mean mg mb, Top p loose mean mg mb h
  c1 : CodeHd h 105 101
  c2 : CodeHd h 81 77
theorem Gnd.keeps {w : World} {h h' : Heap} (G : Gnd w h) (k : ∀ b o, h.get? b = some o → h'.get? b = some o) : Gnd w h' :=
  ⟨G.x.keeps k, let ⟨p, l, me, mg, mb, t⟩ := G.t; ⟨p, l, me, mg, mb, t.keeps k⟩, G.c1.keeps k, G.c2.keeps k⟩

def retv : Flow → Value
  | .ret v => v
  | _ => .none

/-- what a call without a change leaves -/
def Done (s s' : Shared) (P : Prop) : Prop := Keeps s s' ∧ P
theorem Done.mk {s s' : Shared} {P : Prop} (k : Keeps s s') (p : P) : Done s s' P := ⟨k, p⟩
theorem use {α : Type} {M : Model} {A : Around} {t : Sem α} {s : Shared} {P : α → Shared → Prop} {Q : α → Shared → Prop} {E : Value → Shared → Prop}
    (c : wpAny M A t (fun v s' => Done s s' (P v s')) (fun _ _ => False) s)
    (h : ∀ v h' tk', (∀ b o, s.heap.get? b = some o → h'.get? b = some o) → P v { s with heap := h', toks := tk' } → Q v { s with heap := h', toks := tk' }) : wpAny M A t Q E s := by
  refine wpAny_mono c (fun v s' h' => ?_) (fun _ _ h => h.elim)
  obtain ⟨⟨h₁, tk, rfl, hk⟩, hP⟩ := h'
  exact h v h₁ tk hk hP

theorem bindsK {w : World} {s : Shared} {fd : FuncData} {args : Args} {binds : List (Str × Value)} (G : Gnd w s.heap) (e : ∀ S, peek (hd.heap_1 w.params) S (bindArgs fd args) = some binds) : BindsTo s fd args binds :=
  fun _ _ _ _ hq => (Looks.of_peek G.x (e _)).here hq

section
variable {w : World} {A : Around} {s : Shared} {E : Value → Shared → Prop} {Q : Value → Shared → Prop}
/-- a call of a plain def of the top; the ground of the callee is the whole heap -/
theorem enterP {name qual : Str} {params : Arguments} {body : List Stmt} {scope : Scope} {dV kV doc pm cdv ct oc : Value} {an od : Option Addr} {osl : Array (Option Value)} {f : Addr} {vs : List Value} {kw : List (Str × Value)} {binds : List (Str × Value)}
    (G : Gnd w s.heap)
    (ho : (hd.heap_1 w.params).lookup f = some ⟨oc, od, .func (fnOf name qual params body scope dV kV doc pm an cdv ct), osl⟩) (hcd : codeIn (hd.heap_1 w.params) cdv qual = true) (hroom : A.depth < recursionLimit)
    (hbind : BindsTo s (fnOf name qual params body scope dV kV doc pm an cdv ct) ⟨vs, kw⟩ binds) (hloc : ∀ y ∈ binds, scope.names.lookup y.1 = some .local)
    (hco : scope.isCoroutine = false) (hgen : scope.isGenerator = false) (hk : scope.kind = .function)
    (hcell : ∀ x ∈ scope.names, x.2 ≠ .cell)
    (h : ∀ L' h₁, Fr s.heap L' h₁ (fun y => binds.reverse.lookup y) → News s.heap L' h₁ [] →
      wpAny (model PR w) (A.deeper (envX qual scope L' f cdv [])) (execs body (envX qual scope L' f cdv [])) (fun fl s' => Q (retv fl) s') (fun _ _ => False)
        { s with heap := h₁, toks := s.toks + binds.length }) :
    wpAny (model PR w) A (call (.ref f) vs kw) Q E s := by
  obtain ⟨p, l, me, mg, mb, T⟩ := G.t
  refine wpAny_call ?_
  refine codeAny_call_def (fd := fnOf name qual params body scope dV kV doc pm an cdv ct) (body := body) (binds := binds) hroom (G.x _ _ ho) rfl T.nolimit (codeRec_of G.x hcd) rfl hbind hcell hloc (fun h₁ hns hk₁ => ?_) hco hgen hk
  refine wpAny_mono (h _ h₁ ⟨hns, hk₁, Nat.le_refl _⟩ (fun _ hp => nomatch hp)) (fun fl s' hl => ?_) (fun _ _ h => h.elim)
  cases fl <;> exact hl
/-- the same; a ground of one's own, the rest to change -/
theorem enterG {g : Heap} {name qual : Str} {params : Arguments} {body : List Stmt} {scope : Scope} {dV kV doc pm cdv ct oc : Value} {an od : Option Addr} {osl : Array (Option Value)} {f : Addr} {vs : List Value} {kw : List (Str × Value)} {binds : List (Str × Value)}
    (G : Gnd w g) (hg : ∀ b o, g.get? b = some o → s.heap.get? b = some o) (hsz : g.objs.size ≤ s.heap.objs.size)
    (ho : (hd.heap_1 w.params).lookup f = some ⟨oc, od, .func (fnOf name qual params body scope dV kV doc pm an cdv ct), osl⟩) (hcd : codeIn (hd.heap_1 w.params) cdv qual = true) (hroom : A.depth < recursionLimit)
    (hbind : BindsTo s (fnOf name qual params body scope dV kV doc pm an cdv ct) ⟨vs, kw⟩ binds) (hloc : ∀ y ∈ binds, scope.names.lookup y.1 = some .local)
    (hco : scope.isCoroutine = false) (hgen : scope.isGenerator = false) (hk : scope.kind = .function)
    (hcell : ∀ x ∈ scope.names, x.2 ≠ .cell)
    (h : ∀ L' h₁, L' = s.heap.objs.size → Fr g L' h₁ (fun y => binds.reverse.lookup y) → (∀ b o, s.heap.get? b = some o → h₁.get? b = some o) →
      wpAny (model PR w) (A.deeper (envX qual scope L' f cdv [])) (execs body (envX qual scope L' f cdv [])) (fun fl s' => Q (retv fl) s') (fun _ _ => False)
        { s with heap := h₁, toks := s.toks + binds.length }) :
    wpAny (model PR w) A (call (.ref f) vs kw) Q E s := by
  obtain ⟨p, l, me, mg, mb, T⟩ := (G.keeps hg).t
  refine wpAny_call ?_
  refine codeAny_call_def (fd := fnOf name qual params body scope dV kV doc pm an cdv ct) (body := body) (binds := binds) hroom (hg _ _ (G.x _ _ ho)) rfl T.nolimit (codeRec_of (G.keeps hg).x hcd) rfl hbind hcell hloc (fun h₁ hns hk₁ => ?_) hco hgen hk
  refine wpAny_mono (h _ h₁ rfl ⟨hns, fun b o e => hk₁ b o (hg b o e), hsz⟩ hk₁) (fun fl s' hl => ?_) (fun _ _ h => h.elim)
  cases fl <;> exact hl
/-- a call of a def some of whose names are cells -/
theorem enterC {g : Heap} {name qual : Str} {params : Arguments} {body : List Stmt} {scope : Scope} {dV kV doc pm cdv ct oc : Value} {an od : Option Addr} {osl : Array (Option Value)} {f : Addr} {vs : List Value} {kw : List (Str × Value)} {binds : List (Str × Value)}
    (G : Gnd w g) (hg : ∀ b o, g.get? b = some o → s.heap.get? b = some o) (hsz : g.objs.size ≤ s.heap.objs.size)
    (ho : (hd.heap_1 w.params).lookup f = some ⟨oc, od, .func (fnOf name qual params body scope dV kV doc pm an cdv ct), osl⟩) (hcd : codeIn (hd.heap_1 w.params) cdv qual = true) (hroom : A.depth < recursionLimit)
    (hbind : BindsTo s (fnOf name qual params body scope dV kV doc pm an cdv ct) ⟨vs, kw⟩ binds)
    (hkind : (binds.all fun y => scope.names.lookup y.1 == some .local || scope.names.lookup y.1 == some .cell) = true)
    (hnd : ((cellsFrom 0 scope.names []).map (·.1)).Nodup)
    (hco : scope.isCoroutine = false) (hgen : scope.isGenerator = false) (hk : scope.kind = .function)
    (h : ∀ L' h₁ tk cells, L' = s.heap.objs.size → Fr g L' h₁ (bindL (envOfC qual scope L' f cdv).kindOf binds fun _ => none) → News g L' h₁ cells →
      CellsAre (bindC (envOfC qual scope L' f cdv).kindOf binds fun _ => none) (cellsFrom (L' + 1) scope.names []) cells → (∀ b o, s.heap.get? b = some o → h₁.get? b = some o) →
      wpAny (model PR w) (A.deeper (envOfC qual scope L' f cdv)) (execs body (envOfC qual scope L' f cdv)) (fun fl s' => Q (retv fl) s') (fun _ _ => False)
        { s with heap := h₁, toks := tk }) :
    wpAny (model PR w) A (call (.ref f) vs kw) Q E s := by
  obtain ⟨p, l, me, mg, mb, T⟩ := (G.keeps hg).t
  refine wpAny_call ?_
  refine codeAny_call_function hroom (hg _ _ (G.x _ _ ho)) rfl hco hgen rfl (codeRec_of (G.keeps hg).x hcd) (hbind _ _ _ _ ?_)
  refine wpAny_newFunctionEnv_cells hk (kindsX hkind _) fun env' he s' x => ?_
  subst he
  refine ⟨T.nolimit.keeps x.toInCall.keep, codeAny_func ?_⟩
  obtain ⟨h₁, tk, rfl, _⟩ := x.done
  have hk₁ := x.toInCall.keep
  obtain ⟨cells, NC, Y⟩ := Cl.news (h₀ := s.heap) (Nat.le_refl _) fun n c hm => ⟨x.cell n c (lookup_of_mem_nodup (cellsFrom_names scope.names 0 (s.heap.objs.size + 1) [] [] rfl ▸ hnd) hm), x.above n c hm⟩
  refine wpAny_mono (h s.heap.objs.size h₁ tk cells rfl ⟨x.toInCall.ns, fun b o e => hk₁ b o (hg b o e), hsz⟩ (fun p hp => ⟨(NC p hp).1, (NC p hp).2.1, ?_⟩) Y hk₁) (fun fl s' hl => ?_) (fun _ _ h => h.elim)
  · cases q : g.get? p.1 with
    | none => rfl
    | some o => have := hg _ _ q; rw [(NC p hp).2.2] at this; cases this
  · cases fl <;> exact hl
/-- the whole but for one object -/
theorem hide_keep {h : Heap} {a b : Addr} {o : Obj} (e : h.get? b = some o) (n : b ≠ a) : (hideAll h [a]).get? b = some o := hideAll_get _ e fun q => n (List.mem_singleton.mp q)
theorem hide_of {h : Heap} {a b : Addr} {o : Obj} (e : (hideAll h [a]).get? b = some o) : h.get? b = some o := of_hideAll _ e
theorem hide_size {h : Heap} {a : Addr} : (hideAll h [a]).objs.size ≤ h.objs.size := Nat.le_of_eq (hideAll_size _ _)
theorem hide_none {h : Heap} {a : Addr} : (hideAll h [a]).get? a = none := hideAll_none _ (.head _)
theorem Gnd.hide {h₀ h : Heap} {a : Addr} (G : Gnd w h₀) (k : ∀ b o, h₀.get? b = some o → h.get? b = some o) (n : h₀.get? a = none) : Gnd w (hideAll h [a]) :=
  G.keeps fun b o e => hide_keep (k b o e) fun q => by rw [q, n] at e; cases e
end
end Mine

end

open PySem PySem.W PyProof.Rows PySem.Calls
local macro_rules | `(tactic| walk_at "k") => `(tactic| first | (k_unfold; (try dsimp only)) | walk1 | (dsimp only; walk1))

theorem Mine.quiet_B1 : True := by
  w_top off
  trivial

section
open PySem PySem.W PyProof.Rows PySem.Calls
namespace Mine
local macro_rules | `(tactic| walk_at "eval Name") => `(tactic| (refine nameX_L (by assumption) (by first | assumption | with_unfolding_all rfl) ?_ rfl rfl))
/-- x comes before the text at place i -/
def ltAt (xs : List Str) (x : Str) (i : Nat) : Bool := decide (x.cps.toList < (xs.getD i Str.empty).cps.toList)
def RightAt (xs : List Str) (x : Str) (lo hi r : Nat) : Prop := lo ≤ r ∧ r ≤ hi ∧ (r = lo ∨ ltAt xs x (r-1) = false) ∧ (r = hi ∨ ltAt xs x r = true)
/-- a turn of the search: what is left lies between l and h -/
inductive BisJ (xs : List Str) (a : Addr) (x : Str) (t : Tok) (lo hi : Nat) (n : Nat) (m : Str → Option Value) (news : List (Addr × Obj)) : Prop
  | mk (l h : Nat) (en : n = h - l) (h1 : lo ≤ l) (h2 : l ≤ h) (h3 : h ≤ hi) (h4 : l = lo ∨ ltAt xs x (l-1) = false) (h5 : h = hi ∨ ltAt xs x h = true) (es : news = [])
    (e1 : m (Str.ofString "a") = some (.ref a)) (e2 : m (Str.ofString "x") = some (.str x t)) (e3 : ∃ t, m (Str.ofString "lo") = some (.int l t)) (e4 : ∃ t, m (Str.ofString "hi") = some (.int h t))
set_option maxRecDepth 100000 in
set_option maxHeartbeats 0 in
theorem bisR (w : World) (A : Around) (s : Shared) (G : Gnd w s.heap) (hd : A.depth + 1 < recursionLimit) 
   (a : Addr) (vs : List Value) (xs : List Str) (hl : s.heap.IsList a vs.toArray) (hx : StrsAre vs xs) (x : Str) (t : Tok) (lo hi : Nat) (tl : Tok) (th : Tok) (hlo : lo ≤ hi) (hhi : hi ≤ xs.length) (hsz : xs.length < 1000) :
   wpAny (model PR w) A (call (.ref 49) [.ref a, .str x t, .int lo tl, .int hi th]) (fun v s' => Done s s' (∃ (r : Nat) (tr : Tok), v = .int r tr ∧ RightAt xs x lo hi r)) (fun _ _ => False) s := by
  refine enterP G (ho := rfl) (hcd := rfl) (by omega) (bindsK G (fun _ => rfl)) (locs rfl) rfl rfl rfl (by decide) ?_
  intro L h₁ F N
  obtain ⟨p, loose, mean, mg, mb, T⟩ := G.t
  have X := G.x
  have hrow : PySem.Challenge.rw_in0020_01 = PySem.Challenge.rw_in0020_01 := rfl
  revert hrow X
  k_fill
  intro X hrow
  dsimp only
  iterate 28 (walk_at "k")
  refine While_inv (BisJ xs a x t lo hi) F N
      ⟨lo, hi, rfl, Nat.le_refl _, hlo, Nat.le_refl _, .inl rfl, .inl rfl, rfl, rfl, rfl, ⟨_, rfl⟩, ⟨_, rfl⟩⟩ ?_
  rintro n m news h₂ tk₂ F₂ N₂ ⟨l, h, rfl, h1, h2, h3, h4, h5, rfl, e1, e2, ⟨t1, e3⟩, ⟨t2, e4⟩⟩
  clear F N
  iterate 6 (walk_at "k")
  · iterate 9 (walk_at "k")
    have hmid : (↑l + ↑h : Int).fdiv 2 = (((l+h)/2 : Nat) : Int) := by rw [Int.fdiv_eq_ediv_of_nonneg _ (by omega)]; omega
    rw [hmid]
    dsimp only
    obtain ⟨mid, hm1⟩ : ∃ mid, mid = (l+h)/2 := ⟨_, rfl⟩
    rw [← hm1]
    have : l ≤ mid := by omega
    have : mid < h := by omega
    iterate 12 (walk_at "k")
    change if ltAt xs x mid = true then _ else _
    split
    · iterate 6 (walk_at "k")
      refine' WhileStep.intro (n' := mid - l) ?F ?N ?n ?J
      case F => assumption
      case N => assumption
      case n => omega
      exact ⟨l, mid, rfl, by omega, by omega, by omega, h4, .inr (by assumption), rfl, e1, e2, ⟨_, e3⟩, ⟨_, rfl⟩⟩
    · iterate 9 (walk_at "k")
      refine' WhileStep.intro (n' := h - (mid+1)) ?F1 ?N1 ?n1 ?J1
      case F1 => assumption
      case N1 => assumption
      case n1 => omega
      exact ⟨mid+1, h, rfl, by omega, by omega, by omega, .inr (by simpa using (by assumption : ¬ ltAt xs x mid = true)), h5, rfl, e1, e2, ⟨_, rfl⟩, ⟨_, e4⟩⟩
  · have : l = h := by omega
    subst this
    dsimp only
    iterate 4 (walk_at "k")
    exact Done.mk ⟨_, _, rfl, F₂.keep⟩ ⟨l, _, rfl, h1, h3, h4, h5⟩
end Mine

end

theorem Mine.quiet_B2 : True := by
  w_top off
  trivial

section
open PySem PySem.W PyProof.Rows PySem.Calls
namespace Mine
local macro_rules | `(tactic| walk_at "eval Name") => `(tactic| (refine nameX_L (by assumption) (by first | assumption | with_unfolding_all rfl) ?_ rfl rfl))

/-- a function object that gives `key y` of each of the texts -/
def KeyOk (w : World) (h : Heap) (kf : Addr) (D U : Nat) (P : Str → Prop) (key : Str → Str) : Prop :=
  FnAt kf h ∧ ∀ (A : Around) (s : Shared) (y : Str) (t : Tok), (∀ b o, h.get? b = some o → s.heap.get? b = some o) → A.depth + D < recursionLimit → A.units + U < cLine → P y →
    wpAny (model PR w) A (call (.ref kf) [.str y t]) (fun v s' => Done s s' (∃ t', v = .str (key y) t')) (fun _ _ => False) s
theorem KeyOk.keeps {w : World} {h h' : Heap} {kf : Addr} {D U : Nat} {P : Str → Prop} {key : Str → Str} (K : KeyOk w h kf D U P key) (k : ∀ b o, h.get? b = some o → h'.get? b = some o) : KeyOk w h' kf D U P key :=
  ⟨let ⟨oc, od, fd, sl, e⟩ := K.1; ⟨oc, od, fd, sl, k _ _ e⟩, fun A s y t hk => K.2 A s y t fun b o e => hk b o (k b o e)⟩
def ltK (xs : List Str) (key : Str → Str) (x : Str) (i : Nat) : Bool := decide (x.cps.toList < (key (xs.getD i Str.empty)).cps.toList)
def gtK (xs : List Str) (key : Str → Str) (x : Str) (i : Nat) : Bool := decide ((key (xs.getD i Str.empty)).cps.toList < x.cps.toList)

/-- a turn of the search: what is left lies between l and h -/
inductive BisK (xs : List Str) (key : Str → Str) (a kf : Addr) (x : Str) (t : Tok) (lo hi : Nat) (n : Nat) (m : Str → Option Value) (news : List (Addr × Obj)) : Prop
  | mk (l h : Nat) (en : n = h - l) (h1 : lo ≤ l) (h2 : l ≤ h) (h3 : h ≤ hi) (h4 : l = lo ∨ ltK xs key x (l-1) = false) (h5 : h = hi ∨ ltK xs key x h = true) (es : news = [])
    (e1 : m (Str.ofString "a") = some (.ref a)) (e2 : m (Str.ofString "x") = some (.str x t)) (e2' : m (Str.ofString "key") = some (.ref kf)) (e3 : ∃ t, m (Str.ofString "lo") = some (.int l t)) (e4 : ∃ t, m (Str.ofString "hi") = some (.int h t))
set_option maxRecDepth 100000 in
set_option maxHeartbeats 0 in
theorem bisRK (w : World) (A : Around) (s : Shared) (G : Gnd w s.heap) (D U : Nat) (hd : A.depth + (D + 3) < recursionLimit) (hu : A.units + (U + 10) < cLine)
   (a kf : Addr) (vs : List Value) (xs : List Str) (hl : s.heap.IsList a vs.toArray) (hx : StrsAre vs xs) (x : Str) (t : Tok) (lo hi : Nat) (tl : Tok) (th : Tok) (hlo : lo ≤ hi) (hhi : hi ≤ xs.length) (hsz : xs.length < 1000)
   (key : Str → Str) (K : KeyOk w s.heap kf D U (fun y => ∃ i, lo ≤ i ∧ i < hi ∧ y = xs.getD i Str.empty) key) :
   wpAny (model PR w) A (call (.ref 49) [.ref a, .str x t, .int lo tl, .int hi th] [(Str.ofString "key", .ref kf)]) (fun v s' => Done s s' (∃ (r : Nat) (tr : Tok), v = .int r tr ∧ lo ≤ r ∧ r ≤ hi ∧ (r = lo ∨ ltK xs key x (r-1) = false) ∧ (r = hi ∨ ltK xs key x r = true))) (fun _ _ => False) s := by
  refine enterP G (ho := rfl) (hcd := rfl) (by omega) (bindsK G (fun _ => rfl)) (locs rfl) rfl rfl rfl (by decide) ?_
  intro L h₁ F N
  obtain ⟨p, loose, mean, mg, mb, T⟩ := G.t
  have X := G.x
  have hrow : PySem.Challenge.rw_in0020_01 = PySem.Challenge.rw_in0020_01 := rfl
  revert hrow X
  k_fill
  intro X hrow
  dsimp only
  iterate 28 (walk_at "k")
  refine While_inv (BisK xs key a kf x t lo hi) F N
      ⟨lo, hi, rfl, Nat.le_refl _, hlo, Nat.le_refl _, .inl rfl, .inl rfl, rfl, rfl, rfl, rfl, ⟨_, rfl⟩, ⟨_, rfl⟩⟩ ?_
  rintro n m news h₂ tk₂ F₂ N₂ ⟨l, h, rfl, h1, h2, h3, h4, h5, rfl, e1, e2, e2', ⟨t1, e3⟩, ⟨t2, e4⟩⟩
  clear F N
  iterate 6 (walk_at "k")
  · iterate 9 (walk_at "k")
    have hmid : (↑l + ↑h : Int).fdiv 2 = (((l+h)/2 : Nat) : Int) := by rw [Int.fdiv_eq_ediv_of_nonneg _ (by omega)]; omega
    rw [hmid]
    dsimp only
    obtain ⟨mid, hm1⟩ : ∃ mid, mid = (l+h)/2 := ⟨_, rfl⟩
    rw [← hm1]
    have : l ≤ mid := by omega
    have : mid < h := by omega
    iterate 8 (walk_at "k")
    refine callWith_F (K.keeps (Fr.keep (by assumption))).1 ?_
    iterate 6 (walk_at "k")
    have Kh := K.keeps (Fr.keep (by assumption : Fr s.heap L _ _))
    refine ⟨Kh.1, ?_⟩
    rename Fr s.heap L _ _ => F₃
    rename News s.heap L _ _ => N₃
    refine use (Kh.2 _ _ _ _ (fun _ _ e => e) ?zd ?zu ?zp) ?_
    case zd => show A.depth + 1 + D < _; omega
    case zu => show A.units + 3 + U < _; omega
    case zp => exact ⟨mid, by omega, by omega, rfl⟩
    rintro v h₄ tk₄ hk₄ ⟨t₄, rfl⟩
    have F₄ := F₃.keeps hk₄
    have N₄ := N₃.keeps hk₄
    clear F₃ N₃
    iterate 2 (walk_at "k")
    change if ltK xs key x mid = true then _ else _
    split
    · iterate 6 (walk_at "k")
      refine' WhileStep.intro (n' := mid - l) ?F ?N ?n ?J
      case F => assumption
      case N => assumption
      case n => omega
      exact ⟨l, mid, rfl, by omega, by omega, by omega, h4, .inr (by assumption), rfl, e1, e2, e2', ⟨_, e3⟩, ⟨_, rfl⟩⟩
    · iterate 9 (walk_at "k")
      refine' WhileStep.intro (n' := h - (mid+1)) ?F1 ?N1 ?n1 ?J1
      case F1 => assumption
      case N1 => assumption
      case n1 => omega
      exact ⟨mid+1, h, rfl, by omega, by omega, by omega, .inr (by simpa using (by assumption : ¬ ltK xs key x mid = true)), h5, rfl, e1, e2, e2', ⟨_, rfl⟩, ⟨_, e4⟩⟩
  · have : l = h := by omega
    subst this
    dsimp only
    iterate 4 (walk_at "k")
    exact Done.mk ⟨_, _, rfl, F₂.keep⟩ ⟨l, _, rfl, h1, h3, h4, h5⟩
/-- a turn of the search: what is left lies between l and h -/
inductive BisG (xs : List Str) (key : Str → Str) (a kf : Addr) (x : Str) (t : Tok) (lo hi : Nat) (n : Nat) (m : Str → Option Value) (news : List (Addr × Obj)) : Prop
  | mk (l h : Nat) (en : n = h - l) (h1 : lo ≤ l) (h2 : l ≤ h) (h3 : h ≤ hi) (h4 : l = lo ∨ gtK xs key x (l-1) = true) (h5 : h = hi ∨ gtK xs key x h = false) (es : news = [])
    (e1 : m (Str.ofString "a") = some (.ref a)) (e2 : m (Str.ofString "x") = some (.str x t)) (e2' : m (Str.ofString "key") = some (.ref kf)) (e3 : ∃ t, m (Str.ofString "lo") = some (.int l t)) (e4 : ∃ t, m (Str.ofString "hi") = some (.int h t))
set_option maxRecDepth 100000 in
set_option maxHeartbeats 0 in
theorem bisLK (w : World) (A : Around) (s : Shared) (G : Gnd w s.heap) (D U : Nat) (hd : A.depth + (D + 3) < recursionLimit) (hu : A.units + (U + 10) < cLine)
   (a kf : Addr) (vs : List Value) (xs : List Str) (hl : s.heap.IsList a vs.toArray) (hx : StrsAre vs xs) (x : Str) (t : Tok) (lo hi : Nat) (tl : Tok) (th : Tok) (hlo : lo ≤ hi) (hhi : hi ≤ xs.length) (hsz : xs.length < 1000)
   (key : Str → Str) (K : KeyOk w s.heap kf D U (fun y => ∃ i, lo ≤ i ∧ i < hi ∧ y = xs.getD i Str.empty) key) :
   wpAny (model PR w) A (call (.ref 58) [.ref a, .str x t, .int lo tl, .int hi th] [(Str.ofString "key", .ref kf)]) (fun v s' => Done s s' (∃ (r : Nat) (tr : Tok), v = .int r tr ∧ lo ≤ r ∧ r ≤ hi ∧ (r = lo ∨ gtK xs key x (r-1) = true) ∧ (r = hi ∨ gtK xs key x r = false))) (fun _ _ => False) s := by
  refine enterP G (ho := rfl) (hcd := rfl) (by omega) (bindsK G (fun _ => rfl)) (locs rfl) rfl rfl rfl (by decide) ?_
  intro L h₁ F N
  obtain ⟨p, loose, mean, mg, mb, T⟩ := G.t
  have X := G.x
  have hrow : PySem.Challenge.rw_in0020_01 = PySem.Challenge.rw_in0020_01 := rfl
  revert hrow X
  k_fill
  intro X hrow
  dsimp only
  iterate 28 (walk_at "k")
  refine While_inv (BisG xs key a kf x t lo hi) F N
      ⟨lo, hi, rfl, Nat.le_refl _, hlo, Nat.le_refl _, .inl rfl, .inl rfl, rfl, rfl, rfl, rfl, ⟨_, rfl⟩, ⟨_, rfl⟩⟩ ?_
  rintro n m news h₂ tk₂ F₂ N₂ ⟨l, h, rfl, h1, h2, h3, h4, h5, rfl, e1, e2, e2', ⟨t1, e3⟩, ⟨t2, e4⟩⟩
  clear F N
  iterate 6 (walk_at "k")
  · iterate 9 (walk_at "k")
    have hmid : (↑l + ↑h : Int).fdiv 2 = (((l+h)/2 : Nat) : Int) := by rw [Int.fdiv_eq_ediv_of_nonneg _ (by omega)]; omega
    rw [hmid]
    dsimp only
    obtain ⟨mid, hm1⟩ : ∃ mid, mid = (l+h)/2 := ⟨_, rfl⟩
    rw [← hm1]
    have : l ≤ mid := by omega
    have : mid < h := by omega
    iterate 7 (walk_at "k")
    refine callWith_F (K.keeps (Fr.keep (by assumption))).1 ?_
    iterate 6 (walk_at "k")
    have Kh := K.keeps (Fr.keep (by assumption : Fr s.heap L _ _))
    refine ⟨Kh.1, ?_⟩
    rename Fr s.heap L _ _ => F₃
    rename News s.heap L _ _ => N₃
    refine use (Kh.2 _ _ _ _ (fun _ _ e => e) ?zd ?zu ?zp) ?_
    case zd => show A.depth + 1 + D < _; omega
    case zu => show A.units + 3 + U < _; omega
    case zp => exact ⟨mid, by omega, by omega, rfl⟩
    rintro v h₄ tk₄ hk₄ ⟨t₄, rfl⟩
    have F₄ := F₃.keeps hk₄
    have N₄ := N₃.keeps hk₄
    clear F₃ N₃
    iterate 3 (walk_at "k")
    change if gtK xs key x mid = true then _ else _
    split
    · iterate 9 (walk_at "k")
      refine' WhileStep.intro (n' := h - (mid+1)) ?F ?N ?n ?J
      case F => assumption
      case N => assumption
      case n => omega
      exact ⟨mid+1, h, rfl, by omega, by omega, by omega, .inr (by assumption), h5, rfl, e1, e2, e2', ⟨_, rfl⟩, ⟨_, e4⟩⟩
    · iterate 6 (walk_at "k")
      refine' WhileStep.intro (n' := mid - l) ?F1 ?N1 ?n1 ?J1
      case F1 => assumption
      case N1 => assumption
      case n1 => omega
      exact ⟨l, mid, rfl, by omega, by omega, by omega, h4, .inr (by simpa using (by assumption : ¬ gtK xs key x mid = true)), rfl, e1, e2, e2', ⟨_, e3⟩, ⟨_, rfl⟩⟩
  · have : l = h := by omega
    subst this
    dsimp only
    iterate 4 (walk_at "k")
    exact Done.mk ⟨_, _, rfl, F₂.keep⟩ ⟨l, _, rfl, h1, h3, h4, h5⟩
end Mine

end

theorem Mine.quiet_B3 : True := by
  w_top off
  trivial

section
open PySem PySem.W PyProof.Rows PySem.Calls
namespace Mine
local macro_rules | `(tactic| walk_at "eval Name") => `(tactic| (refine nameX_L (by assumption) (by first | assumption | with_unfolding_all rfl) ?_ rfl rfl))

set_option maxRecDepth 100000 in
set_option maxHeartbeats 0 in
theorem bisR0 (w : World) (A : Around) (s : Shared) (G : Gnd w s.heap) (hd : A.depth + 1 < recursionLimit) 
   (a : Addr) (vs : List Value) (xs : List Str) (hl : s.heap.IsList a vs.toArray) (hx : StrsAre vs xs) (x : Str) (t : Tok) (tl : Tok) (hsz : xs.length < 1000) :
   wpAny (model PR w) A (call (.ref 49) [.ref a, .str x t, .int 0 tl, .none]) (fun v s' => Done s s' (∃ (r : Nat) (tr : Tok), v = .int r tr ∧ RightAt xs x 0 xs.length r)) (fun _ _ => False) s := by
  refine enterP G (ho := rfl) (hcd := rfl) (by omega) (bindsK G (fun _ => rfl)) (locs rfl) rfl rfl rfl (by decide) ?_
  intro L h₁ F N
  obtain ⟨p, loose, mean, mg, mb, T⟩ := G.t
  have X := G.x
  have hrow : PySem.Challenge.rw_in0020_01 = PySem.Challenge.rw_in0020_01 := rfl
  revert hrow X
  k_fill
  intro X hrow
  dsimp only
  iterate 39 (walk_at "k")
  rename Fr s.heap L _ _ => F
  rename News s.heap L _ _ => N
  refine While_inv (BisJ xs a x t 0 xs.length) F N
      ⟨0, xs.length, rfl, Nat.le_refl _, Nat.zero_le _, Nat.le_refl _, .inl rfl, .inl rfl, rfl, rfl, rfl, ⟨_, rfl⟩, ⟨_, rfl⟩⟩ ?_
  rintro n m news h₂ tk₂ F₂ N₂ ⟨l, h, rfl, h1, h2, h3, h4, h5, rfl, e1, e2, ⟨t1, e3⟩, ⟨t2, e4⟩⟩
  clear F N
  iterate 6 (walk_at "k")
  · iterate 9 (walk_at "k")
    have hmid : (↑l + ↑h : Int).fdiv 2 = (((l+h)/2 : Nat) : Int) := by rw [Int.fdiv_eq_ediv_of_nonneg _ (by omega)]; omega
    rw [hmid]
    dsimp only
    obtain ⟨mid, hm1⟩ : ∃ mid, mid = (l+h)/2 := ⟨_, rfl⟩
    rw [← hm1]
    have : l ≤ mid := by omega
    have : mid < h := by omega
    iterate 12 (walk_at "k")
    change if ltAt xs x mid = true then _ else _
    split
    · iterate 6 (walk_at "k")
      refine' WhileStep.intro (n' := mid - l) ?F ?N ?n ?J
      case F => assumption
      case N => assumption
      case n => omega
      exact ⟨l, mid, rfl, by omega, by omega, by omega, h4, .inr (by assumption), rfl, e1, e2, ⟨_, e3⟩, ⟨_, rfl⟩⟩
    · iterate 9 (walk_at "k")
      refine' WhileStep.intro (n' := h - (mid+1)) ?F1 ?N1 ?n1 ?J1
      case F1 => assumption
      case N1 => assumption
      case n1 => omega
      exact ⟨mid+1, h, rfl, by omega, by omega, by omega, .inr (by simpa using (by assumption : ¬ ltAt xs x mid = true)), h5, rfl, e1, e2, ⟨_, rfl⟩, ⟨_, e4⟩⟩
  · have : l = h := by omega
    subst this
    dsimp only
    iterate 4 (walk_at "k")
    exact Done.mk ⟨_, _, rfl, F₂.keep⟩ ⟨l, _, rfl, h1, h3, h4, h5⟩

theorem listFits {r l : Nat} (h : r ≤ l) (h' : l < 1000) : Builtin.List.listFitsIndex (r : Int) = true := by
  unfold Builtin.List.listFitsIndex
  simp only [Bool.and_eq_true, decide_eq_true_eq]
  omega
set_option maxRecDepth 100000 in
set_option maxHeartbeats 0 in
theorem insort (w : World) (A : Around) (s : Shared) (a : Addr) (G : Gnd w (hideAll s.heap [a])) (hd : A.depth + 3 < recursionLimit) 
   (vs : List Value) (n : Nat) (xs : List Str) (hl : s.heap.get? a = some (listOf vs.toArray n)) (hx : StrsAre vs xs) (x : Str) (t : Tok) (hsz : xs.length < 1000) :
   wpAny (model PR w) A (call (.ref 40) [.ref a, .str x t]) (fun v s' => v = .none ∧ ∃ h' tk' r n', s' = { s with heap := h', toks := tk' } ∧ (∀ b o, b ≠ a → s.heap.get? b = some o → h'.get? b = some o) ∧
     RightAt xs x 0 xs.length r ∧ h'.get? a = some (listOf (vs.take r ++ .str x t :: vs.drop r).toArray n')) (fun _ _ => False) s := by
  refine enterG (g := hideAll s.heap [a]) G (fun _ _ e => hide_of e) hide_size (ho := rfl) (hcd := rfl) (by omega) (bindsK (G.keeps fun _ _ e => hide_of e) (fun _ => rfl)) (locs rfl) rfl rfl rfl (by decide) ?_
  intro L h₁ hL F hk
  have N : News (hideAll s.heap [a]) L h₁ [(a, listOf vs.toArray n)] := fun p hp => by
    rw [List.mem_singleton.mp hp]
    exact ⟨hk _ _ hl, Nat.ne_of_lt (hL ▸ Heap.lt_size hl), hide_none⟩
  obtain ⟨p, loose, mean, mg, mb, T⟩ := G.t
  have X := G.x
  have hrow : PySem.Challenge.rw_in0020_01 = PySem.Challenge.rw_in0020_01 := rfl
  revert hrow X
  k_fill
  intro X hrow
  dsimp only
  iterate 24 (walk_at "k")
  refine use (bisR0 w _ _ (G.keeps F.keep) ?zd a vs xs (News.isList N (.head _)) hx x t 284 hsz) ?_
  case zd => show A.depth + 1 + 1 < _; omega
  rintro v h₂ tk₂ hk₂ ⟨r, tr, rfl, hr⟩
  have F₂ := F.keeps hk₂
  have N₂ := N.grown hk₂
  dsimp only at F₂ N₂ ⊢
  have hk' := fun b o e => hk₂ b o (hk b o e)
  clear F N
  iterate 14 (walk_at "k")
  rename Fr _ L _ _ => F₃
  rename News _ L _ _ => N₃
  have hv : vs.length = xs.length := hx.length
  refine kl_insert F₃ N₃ (listFits hr.2.1 hsz) rfl (Upd.head (fun _ h => nomatch h)) (by rw [sizeLine_eq]; show vs.length ≤ _; omega) ?_
  intro h₄ F₄ N₄
  iterate 2 (walk_at "k")
  refine ⟨rfl, h₄, _, r, n+1, rfl, fun b o ne e => F₄.keep b o (hide_keep e ne), hr, ?_⟩
  rw [(N₄ _ (.head _)).1]
  have hm : min (r : Int).toNat vs.length = r := by have := hr.2.1; omega
  show some (listOf (kl_ins vs r _).toArray (n+1)) = _
  unfold kl_ins
  rw [if_neg (by omega), hm]
end Mine

end

section
open PySem PySem.W PyProof.Rows PySem.Calls
namespace Mine

abbrev testsOf (ifs : List Expr) (cenv : Env) : Sem Bool :=
  forIn ifs true fun c r => if r = true then do let ok ← isTrue c cenv (eval c cenv); pure (ForInStep.yield ok) else pure (ForInStep.yield r)

/-- what a turn of a comprehension leaves: bs is what the loop itself keeps (its list, its iterator), ow the own cells, tl what was made -/
def After (g : Heap) (C : Addr) (Ow : List (Addr × Obj) → Prop) (bs tl : List (Addr × Obj)) (J : List Value → List (Addr × Obj) → Prop) (s₀ : Shared) (ys : List Value) (s' : Shared) : Prop :=
  ∃ h' tk' m' ow' tl', s' = { s₀ with heap := h', toks := tk' } ∧ Fr g C h' m' ∧ News g C h' (tl' ++ (ow' ++ (bs ++ tl))) ∧ Ow ow' ∧ (∀ p ∈ tl', ∀ q ∈ bs, p.1 ≠ q.1) ∧ J ys (tl' ++ tl)

theorem news_split {g h : Heap} {C : Addr} {a b : List (Addr × Obj)} (N : News g C h (a ++ b)) : News g C h a ∧ News g C h b :=
  ⟨fun p hp => N p (List.mem_append_left _ hp), fun p hp => N p (List.mem_append_right _ hp)⟩
theorem news_join {g h : Heap} {C : Addr} {a b : List (Addr × Obj)} (x : News g C h a) (y : News g C h b) : News g C h (a ++ b) :=
  fun p hp => (List.mem_append.mp hp).elim (x p) (y p)
theorem news_apart {g h h' : Heap} {C : Addr} {a : List (Addr × Obj)} (N : News g C h a) (k : ∀ p ∈ a, ∀ o, h.get? p.1 = some o → h'.get? p.1 = some o) : News g C h' a :=
  fun p hp => ⟨k p hp _ (N p hp).1, (N p hp).2⟩

theorem live_list {h : Heap} : ∀ {wr : List Addr}, (∀ b ∈ wr, ∃ o, h.get? b = some o) → ∃ ws : List (Addr × Obj), (∀ b ∈ wr, ∃ o, (b, o) ∈ ws) ∧ (∀ p ∈ ws, p.1 ∈ wr ∧ h.get? p.1 = some p.2)
  | [], _ => ⟨[], (fun _ h => nomatch h), fun _ h => nomatch h⟩
  | b :: r, hl => by
    obtain ⟨ws, h1, h2⟩ := live_list (wr := r) fun b hb => hl b (.tail _ hb)
    obtain ⟨o, ho⟩ := hl b (.head _)
    refine ⟨(b, o) :: ws, fun c hc => ?_, fun p hp => ?_⟩
    · rcases List.mem_cons.mp hc with rfl | hc
      · exact ⟨o, .head _⟩
      · obtain ⟨o', h'⟩ := h1 c hc; exact ⟨o', .tail _ h'⟩
    · rcases List.mem_cons.mp hp with rfl | hp
      · exact ⟨.head _, ho⟩
      · exact ⟨.tail _ (h2 p hp).1, (h2 p hp).2⟩

section
variable {prog : Program} {w : World} {A : Around} {R : Result → Shared → Prop}
theorem compLoopR2 {elt target iter : Expr} {ifs : List Expr} {scope : Scope} {pos : Pos} {I D C : Addr} {fp wr : List Addr} {n : Nat} {P : Nat → Value → Prop} {St : Nat → Heap → Prop} {cenv : Env} {s₂ : Shared} {h₁ : Heap} {tk₁ : Nat}
    {Ow : List (Addr × Obj) → Prop} {ow₁ : List (Addr × Obj)} {m₁ : Str → Option Value}
    (W : Walks prog w A I fp wr n P St)
    (hgo : ∀ i v (s : Shared) (Q : Unit → Shared → Prop) (E : Value → Shared → Prop), i < n → St (i+1) s.heap → P i v → Q () s → wpAny (model prog w) A (letOwnedTupleGo target (.ref I) v) Q E s)
    (hOw : ∀ ow, Ow ow → ∀ p ∈ ow, p.1 ∉ wr ∧ p.1 ≠ D)
    (hlive : ∀ i h, St i h → ∀ b ∈ wr, ∃ o, h.get? b = some o)
    (hfp : ∀ b ∈ fp, ∃ o, s₂.heap.get? b = some o) (hD : s₂.heap.get? D = none) (hDC : D < C) (hsC : s₂.heap.objs.size ≤ C)
    (J : Nat → List Value → List (Addr × Obj) → Prop)
    (turn : ∀ i v h tk m ow bs ys tl, i < n → P i v → J i ys tl → Ow ow → (∀ b ∈ wr, ∃ o, (b, o) ∈ bs) → (∃ k, (D, listOf (List.toArray ys) k) ∈ bs) → (∀ p ∈ bs, p.1 = D ∨ p.1 ∈ wr) → Fr (hideAll s₂.heap wr) C h m → News (hideAll s₂.heap wr) C h (ow ++ (bs ++ tl)) →
      wpAny (model prog w) A (assign target cenv v) (fun _ s₄ => wpAny (model prog w) A (testsOf ifs cenv) (fun ok s₅ =>
        if ok = true then wpAny (model prog w) A (eval elt cenv) (fun y s₆ => After (hideAll s₂.heap wr) C Ow bs tl (J (i+1)) s₂ (ys ++ [y]) s₆) (fun _ _ => False) s₅ else After (hideAll s₂.heap wr) C Ow bs tl (J (i+1)) s₂ ys s₅) (fun _ _ => False) s₄) (fun _ _ => False) { s₂ with heap := h, toks := tk })
    (hR : ∀ h' tk m ow ys tl k, J n ys tl → Ow ow → Fr (hideAll s₂.heap wr) C h' m → News (hideAll s₂.heap wr) C h' (ow ++ ((D, listOf (List.toArray ys) k) :: tl)) → (∀ p ∈ tl, p.1 ≠ D ∧ p.1 ∉ wr) → R (.ok .next) { s₂ with heap := h', toks := tk })
    (hsz : n ≤ sizeLine)
    (hst : St 0 h₁) (F₁ : Fr (hideAll s₂.heap wr) C h₁ m₁) (N₁ : News (hideAll s₂.heap wr) C h₁ (ow₁ ++ [(D, listOf #[] 0)])) (how : Ow ow₁) (J0 : J 0 [] []) :
    codeAny (model prog w) A (.compLoop (.ListComp elt [⟨target, iter, ifs, 0⟩] scope pos) 0 (.ref I) (.ref D) cenv) R { s₂ with heap := h₁, toks := tk₁ } := by
  have lw : ∀ b ∈ wr, b < s₂.heap.objs.size := fun b hb => let ⟨_, e⟩ := hfp b (W.sub b hb); Heap.lt_size e
  have hDw : D ∉ wr := fun hw => by obtain ⟨_, e⟩ := hfp D (W.sub D hw); rw [hD] at e; cases e
  have hDf : D ∉ fp := fun hw => by obtain ⟨_, e⟩ := hfp D hw; rw [hD] at e; cases e
  have hCw : C ∉ wr := fun hw => absurd (lw C hw) (Nat.not_lt.mpr hsC)
  have hDCne : D ≠ C := Nat.ne_of_lt hDC
  have hgD : (hideAll s₂.heap wr).get? D = none := by
    cases e : (hideAll s₂.heap wr).get? D with
    | none => rfl
    | some o => have := of_hideAll _ e; rw [hD] at this; cases this
  refine codeAny_loop rfl (fun k s' => ∃ i h tk m ow ys tl k', s' = { s₂ with heap := h, toks := tk } ∧ i ≤ n ∧ k = n + 1 - i ∧ List.length ys ≤ i ∧ St i h ∧ Ow ow ∧ J i ys tl ∧
    Fr (hideAll s₂.heap wr) C h m ∧ News (hideAll s₂.heap wr) C h (ow ++ ((D, listOf (List.toArray ys) k') :: tl)) ∧ (∀ p ∈ tl, p.1 ≠ D ∧ p.1 ∉ wr)) (fun k s' hI => ?_) (n + 1)
    ⟨0, h₁, tk₁, m₁, ow₁, [], [], 0, rfl, Nat.zero_le _, rfl, Nat.le_refl _, hst, how, J0, F₁, N₁, fun _ hp => nomatch hp⟩
  obtain ⟨i, h, tk, m, ow, ys, tl, k', rfl, hi, rfl, hlen, hst', hw', hJ, F, N, htl⟩ := hI
  show wpAny _ A ((compTurn (.ListComp elt [⟨target, iter, ifs, 0⟩] scope pos) 0 (.ref I) (.ref D) cenv).onRaise (fun x => do noteFrame x cenv; theTreesLotGoes x)) _ _ _
  refine wpAny_noted ?_
  rw [compTurn_list]
  refine wpAny_bind (wpAny_standAt (wpAny_bind ?_))
  obtain ⟨No, N2⟩ := news_split N
  obtain ⟨ND, Nt⟩ := news_split (a := [_]) N2
  by_cases hlt : i < n
  · refine W.item i _ _ _ hlt hst' fun v h₂ tk₂ hPv hst₂ hk₂ => ?_
    refine wpAny_bind (hgo i v _ _ _ hlt hst₂ hPv ?_)
    have F₂ : Fr (hideAll s₂.heap wr) C h₂ m := ⟨F.ns.at' fun o e => hk₂ C o hCw e, fun b o e => by
      by_cases q : b ∈ wr
      · rw [hideAll_none _ q] at e; cases e
      · exact hk₂ b o q (F.keep b o e), F.above⟩
    have No₂ := news_apart No fun p hp o e => hk₂ p.1 o (hOw _ hw' p hp).1 e
    have ND₂ : News (hideAll s₂.heap wr) C h₂ [(D, listOf (List.toArray ys) k')] := news_apart ND fun p hp o e => hk₂ p.1 o (by rw [List.mem_singleton.mp hp]; exact hDw) e
    have Nt₂ := news_apart Nt fun p hp o e => hk₂ p.1 o (htl p hp).2 e
    -- the iterator's own objects
    obtain ⟨ws, hws, Nw⟩ := live_list (hlive _ _ hst₂)
    have Nw₂ : News (hideAll s₂.heap wr) C h₂ ws := fun p hp => ⟨(Nw p hp).2, fun q => hCw (q ▸ (Nw p hp).1), hideAll_none _ (Nw p hp).1⟩
    have N₂ : News (hideAll s₂.heap wr) C h₂ (ow ++ (((D, listOf (List.toArray ys) k') :: ws) ++ tl)) := news_join No₂ (news_join (a := (D, listOf (List.toArray ys) k') :: ws) (news_join (a := [_]) ND₂ Nw₂) Nt₂)
    have fin : ∀ ys' s₆, After (hideAll s₂.heap wr) C Ow ((D, listOf (List.toArray ys) k') :: ws) tl (J (i+1)) s₂ ys' s₆ → ∃ h₃ tk₃ m₃ ow₃ tl₃, s₆ = { s₂ with heap := h₃, toks := tk₃ } ∧ St (i+1) h₃ ∧ Ow ow₃ ∧ J (i+1) ys' tl₃ ∧
        Fr (hideAll s₂.heap wr) C h₃ m₃ ∧ News (hideAll s₂.heap wr) C h₃ (ow₃ ++ ((D, listOf (List.toArray ys) k') :: tl₃)) ∧ (∀ p ∈ tl₃, p.1 ≠ D ∧ p.1 ∉ wr) := by
      rintro ys' s₆ ⟨h₃, tk₃, m₃, ow₃, tl', rfl, F₃, N₃, hw₃, hap, hJ'⟩
      obtain ⟨n1, N₃⟩ := news_split N₃
      obtain ⟨n2, N₃⟩ := news_split N₃
      obtain ⟨n3, n4⟩ := news_split N₃
      refine ⟨h₃, tk₃, m₃, ow₃, tl' ++ tl, rfl, W.frame _ _ _ hst₂ fun b hb o e => ?_, hw₃, hJ', F₃, news_join n2 (news_join (a := [_]) (fun p hp => n3 p (by rw [List.mem_singleton.mp hp]; exact .head _)) (news_join n1 n4)), fun p hp => ?_⟩
      · by_cases q : b ∈ wr
        · obtain ⟨o', ho'⟩ := hws b q
          have e1 := (Nw _ ho').2
          rw [e] at e1
          have e2 := (n3 _ (.tail _ ho')).1
          rw [Option.some.inj e1]; exact e2
        · obtain ⟨o', ho'⟩ := hfp b hb
          have e0 := hideAll_get wr ho' q
          have e1 := F₂.keep _ _ e0
          rw [e] at e1
          rw [Option.some.inj e1]; exact F₃.keep _ _ e0
      · rcases List.mem_append.mp hp with hp | hp
        · refine ⟨hap p hp _ (.head _), fun q => ?_⟩
          obtain ⟨o', ho'⟩ := hws _ q
          exact hap p hp _ (.tail _ ho') rfl
        · exact htl p hp
    refine wpAny_bind (wpAny_mono (turn i v h₂ tk₂ m ow _ ys tl hlt hPv hJ hw' (fun b hb => let ⟨o, ho⟩ := hws b hb; ⟨o, .tail _ ho⟩) ⟨k', .head _⟩ (fun p hp => by rcases List.mem_cons.mp hp with rfl | hp; exact .inl rfl; exact .inr (Nw p hp).1) F₂ N₂) (fun _ s₄ h₄ => ?_) fun _ _ x => x.elim)
    refine wpAny_bind (wpAny_mono h₄ (fun ok s₅ h₅ => ?_) fun _ _ x => x.elim)
    cases ok with
    | false =>
      simp only [Bool.false_eq_true, if_false] at h₅ ⊢
      obtain ⟨h₃, tk₃, m₃, ow₃, tl₃, rfl, a1, a2, a3, a4, a5, a6⟩ := fin _ _ h₅
      exact wpAny_pure ⟨rfl, n + 1 - (i + 1), by omega, i + 1, h₃, tk₃, m₃, ow₃, ys, tl₃, k', rfl, hlt, rfl, by omega, a1, a2, a3, a4, a5, a6⟩
    | true =>
      simp only [if_true] at h₅ ⊢
      refine wpAny_bind (wpAny_bind (wpAny_mono h₅ (fun y s₆ h₆ => ?_) fun _ _ x => x.elim))
      obtain ⟨h₃, tk₃, m₃, ow₃, tl₃, rfl, a1, a2, a3, a4, a5, a6⟩ := fin _ _ h₆
      obtain ⟨n1, n2⟩ := news_split a5
      obtain ⟨n3, n4⟩ := news_split (a := [_]) n2
      have a2' : h₃.PlainList D ys.toArray := ⟨k', (n3 _ (.head _)).1⟩
      refine wpAny_bind (wpAny_list_append_plain (hsz := by rw [List.size_toArray]; omega) a2' fun h₅ hl₅ hs₅ => ?_)
      obtain ⟨k₅, e₅⟩ := hl₅
      refine wpAny_pure (wpAny_pure ⟨rfl, n + 1 - (i + 1), by omega, i + 1, h₅, tk₃, m₃, ow₃, ys ++ [y], tl₃, k₅, rfl, hlt, rfl, by simp; omega, ?_, a2, a3, ?_, ?_, a6⟩)
      · exact W.frame _ _ _ a1 fun b hb o e => hs₅.extBut b o (fun q => hDf (q ▸ hb)) e
      · exact ⟨a4.ns.at' fun o e => hs₅.extBut C o (Ne.symm hDCne) e, fun b o e => hs₅.extBut b o (fun q => by rw [q, hgD] at e; cases e) (a4.keep b o e), a4.above⟩
      · refine news_join (news_apart n1 fun p hp o e => hs₅.extBut _ _ (hOw _ a2 p hp).2 e) (news_join (a := [_]) (fun p hp => ?_) (news_apart n4 fun p hp o e => hs₅.extBut _ _ (a6 p hp).1 e))
        rw [List.mem_singleton.mp hp]
        exact ⟨by simpa using e₅, hDCne, hgD⟩
  · have hin : i = n := by omega
    subst hin
    refine W.done _ _ _ hst' fun h₂ tk₂ hk₂ => wpAny_pure ?_
    refine hR h₂ tk₂ m ow ys tl k' hJ hw' ⟨F.ns.at' fun o e => hk₂ C o hCw e, fun b o e => ?_, F.above⟩ (news_join (news_apart No fun p hp o e => hk₂ p.1 o (hOw _ hw' p hp).1 e) (news_join (a := [_]) (news_apart ND fun p hp o e => hk₂ p.1 o (by rw [List.mem_singleton.mp hp]; exact hDw) e) (news_apart Nt fun p hp o e => hk₂ p.1 o (htl p hp).2 e))) htl
    by_cases q : b ∈ wr
    · rw [hideAll_none _ q] at e; cases e
    · exact hk₂ b o q (F.keep b o e)
theorem compLoopR {elt target iter : Expr} {ifs : List Expr} {scope : Scope} {pos : Pos} {I D C : Addr} {fp wr : List Addr} {n : Nat} {P : Nat → Value → Prop} {St : Nat → Heap → Prop} {cenv : Env} {s₂ : Shared} {h₁ : Heap} {tk₁ : Nat}
    {Ow : List (Addr × Obj) → Prop} {ow₁ : List (Addr × Obj)} {m₁ : Str → Option Value}
    (W : Walks prog w A I fp wr n P St)
    (hgo : ∀ i v (s : Shared) (Q : Unit → Shared → Prop) (E : Value → Shared → Prop), i < n → St (i+1) s.heap → P i v → Q () s → wpAny (model prog w) A (letOwnedTupleGo target (.ref I) v) Q E s)
    (hOw : ∀ ow, Ow ow → ∀ p ∈ ow, p.1 ∉ wr ∧ p.1 ≠ D)
    (hlive : ∀ i h, St i h → ∀ b ∈ wr, ∃ o, h.get? b = some o)
    (hfp : ∀ b ∈ fp, ∃ o, s₂.heap.get? b = some o) (hD : s₂.heap.get? D = none) (hDC : D < C) (hsC : s₂.heap.objs.size ≤ C)
    (J : Nat → List Value → List (Addr × Obj) → Prop)
    (turn : ∀ i v h tk m ow bs ys tl, i < n → P i v → J i ys tl → Ow ow → (∀ b ∈ wr, ∃ o, (b, o) ∈ bs) → (∃ k, (D, listOf (List.toArray ys) k) ∈ bs) → Fr (hideAll s₂.heap wr) C h m → News (hideAll s₂.heap wr) C h (ow ++ (bs ++ tl)) →
      wpAny (model prog w) A (assign target cenv v) (fun _ s₄ => wpAny (model prog w) A (testsOf ifs cenv) (fun ok s₅ =>
        if ok = true then wpAny (model prog w) A (eval elt cenv) (fun y s₆ => After (hideAll s₂.heap wr) C Ow bs tl (J (i+1)) s₂ (ys ++ [y]) s₆) (fun _ _ => False) s₅ else After (hideAll s₂.heap wr) C Ow bs tl (J (i+1)) s₂ ys s₅) (fun _ _ => False) s₄) (fun _ _ => False) { s₂ with heap := h, toks := tk })
    (hR : ∀ h' tk m ow ys tl k, J n ys tl → Ow ow → Fr (hideAll s₂.heap wr) C h' m → News (hideAll s₂.heap wr) C h' (ow ++ ((D, listOf (List.toArray ys) k) :: tl)) → (∀ p ∈ tl, p.1 ≠ D ∧ p.1 ∉ wr) → R (.ok .next) { s₂ with heap := h', toks := tk })
    (hsz : n ≤ sizeLine)
    (hst : St 0 h₁) (F₁ : Fr (hideAll s₂.heap wr) C h₁ m₁) (N₁ : News (hideAll s₂.heap wr) C h₁ (ow₁ ++ [(D, listOf #[] 0)])) (how : Ow ow₁) (J0 : J 0 [] []) :
    codeAny (model prog w) A (.compLoop (.ListComp elt [⟨target, iter, ifs, 0⟩] scope pos) 0 (.ref I) (.ref D) cenv) R { s₂ with heap := h₁, toks := tk₁ } := by
  exact compLoopR2 W hgo hOw hlive hfp hD hDC hsC J (fun i v h tk m ow bs ys tl h1 h2 h3 h4 h5 h6 _ h8 h9 => turn i v h tk m ow bs ys tl h1 h2 h3 h4 h5 h6 h8 h9) hR hsz hst F₁ N₁ how J0


/-- a source of items: its iterator lies at the heap's end -/
def Src (prog : Program) (w : World) (A : Around) (target : Expr) (xv : Value) (s₁ : Shared) (n : Nat) (P : Nat → Value → Prop) : Prop :=
  ∀ (Q : Value → Shared → Prop) (E : Value → Shared → Prop), (∀ (o : Obj) (fp : List Addr) (St : Nat → Heap → Prop), Walks prog w A s₁.heap.objs.size fp [s₁.heap.objs.size] n P St →
    (∀ b ∈ fp, b = s₁.heap.objs.size ∨ ∃ o, s₁.heap.get? b = some o) → o.isFreed = false → (∀ i h, St i h → ∃ o, h.get? s₁.heap.objs.size = some o) → St 0 (s₁.heap.push o) →
    (∀ i v (s : Shared) (Q : Unit → Shared → Prop) (E : Value → Shared → Prop), i < n → St (i+1) s.heap → P i v → Q () s → wpAny (model prog w) A (letOwnedTupleGo target (.ref s₁.heap.objs.size) v) Q E s) →
    Q (.ref s₁.heap.objs.size) { s₁ with heap := s₁.heap.push o }) → wpAny (model prog w) A (pyIter xv) Q E s₁

theorem Src.list {x : Str} {px : Pos} {s₁ : Shared} {ax : Addr} {items : List Value} (hh : A.handled = none) (hl : s₁.heap.IsList ax items.toArray) :
    Src prog w A (.Name x px) (.ref ax) s₁ items.length (fun i v => items[i]? = some v) := by
  intro Q E h
  have hlt : ax < s₁.heap.objs.size := by obtain ⟨_, e, _⟩ := hl; exact Heap.lt_size e
  refine wpAny_pyIter_list hl (h _ [s₁.heap.objs.size, ax] (fun i h => h.IsListIter s₁.heap.objs.size ax i ∧ h.IsList ax items.toArray) ?_ (fun b hb => ?_) rfl (fun i h st => ?_) ⟨⟨_, Heap.get?_push_size _ rfl, rfl, rfl⟩, hl.push _⟩ (fun _ _ _ _ _ _ _ _ hq => wpAny_pure hq))
  · have W := Walks.list (prog := prog) (w := w) hh s₁.heap.objs.size ax (Nat.ne_of_lt hlt) items.toArray
    simpa using W
  · rcases List.mem_cons.mp hb with rfl | hb
    · exact .inl rfl
    · rw [List.mem_singleton.mp hb]; obtain ⟨o, e, _⟩ := hl; exact .inr ⟨o, e⟩
  · obtain ⟨o, e, _⟩ := st.1; exact ⟨o, e⟩

theorem Src.listT {elts : List Expr} {ct : Nat} {px : Pos} {s₁ : Shared} {ax : Addr} {items : List Value} (hh : A.handled = none) (hl : s₁.heap.IsList ax items.toArray) (hr : ∀ v ∈ items, ∃ T, v = .ref T) :
    Src prog w A (.Tuple elts ct px) (.ref ax) s₁ items.length (fun i v => items[i]? = some v) := by
  intro Q E h
  have hlt : ax < s₁.heap.objs.size := by obtain ⟨_, e, _⟩ := hl; exact Heap.lt_size e
  refine wpAny_pyIter_list hl (h _ [s₁.heap.objs.size, ax] (fun i h => h.IsListIter s₁.heap.objs.size ax i ∧ h.IsList ax items.toArray) ?_ (fun b hb => ?_) rfl (fun i h st => ?_) ⟨⟨_, Heap.get?_push_size _ rfl, rfl, rfl⟩, hl.push _⟩ (fun i v s Q E hi st hv hq => ?_))
  · have W := Walks.list (prog := prog) (w := w) hh s₁.heap.objs.size ax (Nat.ne_of_lt hlt) items.toArray
    simpa using W
  · rcases List.mem_cons.mp hb with rfl | hb
    · exact .inl rfl
    · rw [List.mem_singleton.mp hb]; obtain ⟨o, e, _⟩ := hl; exact .inr ⟨o, e⟩
  · obtain ⟨o, e, _⟩ := st.1; exact ⟨o, e⟩
  · obtain ⟨T, rfl⟩ := hr v (List.mem_of_getElem? hv)
    exact wpAny_letOwnedTupleGo_listiter st.1 hq

theorem Src.range {x : Str} {px : Pos} {s₁ : Shared} {r : Addr} {n : Nat} {t u v : Tok} (hh : A.handled = none) (hr : IsRange s₁.heap r 0 n 1 t u v) (hn : n < 1000) :
    Src prog w A (.Name x px) (.ref r) s₁ n (fun i v => ∃ t, v = .int (i : Int) t) := by
  intro Q E h
  have hs : Builtin.Range.rangeSize 0 (n : Int) 1 = (n : Int) := rangeSize_nat _ _
  refine wpAny_pyIter_range hr (small_one (by decide) (by decide) (by omega) (by omega)) (h _ [s₁.heap.objs.size] (fun i h => IsRangeIter h s₁.heap.objs.size (0 + (i : Nat) * 1) ((n : Int) - (i : Nat)) 1) ?_ (fun b hb => .inl (List.mem_singleton.mp hb)) rfl (fun i h st => ⟨_, st⟩) ?_ (fun _ _ _ _ _ _ _ _ hq => wpAny_pure hq))
  · have W := LCg.range_walks (prog := prog) (w := w) (I := s₁.heap.objs.size) hh 0 n
    simpa using W
  · show IsRangeIter _ _ _ _ _
    rw [hs]
    simpa using Heap.get?_push_size s₁.heap rfl

theorem Src.str {x y : Str} {px : Pos} {s₁ : Shared} {t : Tok} (hh : A.handled = none) :
    Src prog w A (.Name x px) (.str y t) s₁ y.cps.size (SignAt y) := by
  intro Q E h
  cases ha : y.cps.all (· < 128)
  · exact wpAny_pyIter_wide ha (h _ _ _ (Walks.strWide hh _ y t) (fun b hb => .inl (List.mem_singleton.mp hb)) rfl (fun i h st => by obtain ⟨o, e, _⟩ := st; exact ⟨o, e⟩) ⟨_, Heap.get?_push_size _ rfl, rfl, rfl⟩ (fun _ _ _ _ _ _ _ _ hq => wpAny_pure hq))
  · exact wpAny_pyIter_ascii ha (h _ _ _ (Walks.strAscii hh _ y t) (fun b hb => .inl (List.mem_singleton.mp hb)) rfl (fun i h st => by obtain ⟨o, e, _⟩ := st; exact ⟨o, e⟩) ⟨_, Heap.get?_push_size _ rfl, rfl, rfl⟩ (fun _ _ _ _ _ _ _ _ hq => wpAny_pure hq))

/-- the turns of a comprehension over n items -/
def Turns (prog : Program) (w : World) (A : Around) (env : Env) (scope : Scope) (cl : List (Str × Addr)) (elt target : Expr) (ifs : List Expr) (s₁ : Shared) (n : Nat) (P : Nat → Value → Prop) (J : Nat → List Value → List (Addr × Obj) → Prop) : Prop :=
  ∀ g s₀ C i v h tk m bs ys tl, (∀ b o, s₁.heap.get? b = some o → g.get? b = some o) → (∃ h₀ , s₀ = { s₁ with heap := h₀ }) → s₁.heap.objs.size < C → i < n → P i v → J i ys tl → (∃ D k, (D, listOf (List.toArray ys) k) ∈ bs) → Fr g C h m → News g C h (bs ++ tl) →
    wpAny (model prog w) A (assign target (compEnvC scope cl C env) v) (fun _ s₄ => wpAny (model prog w) A (testsOf ifs (compEnvC scope cl C env)) (fun ok s₅ =>
      if ok = true then wpAny (model prog w) A (eval elt (compEnvC scope cl C env)) (fun y s₆ => After g C (fun ow => ow = []) bs tl (J (i+1)) s₀ (ys ++ [y]) s₆) (fun _ _ => False) s₅
      else After g C (fun ow => ow = []) bs tl (J (i+1)) s₀ ys s₅) (fun _ _ => False) s₄) (fun _ _ => False) { s₀ with heap := h, toks := tk }

theorem compBlock {E : Value → Shared → Prop} {env : Env} {s₁ : Shared} {xv : Value} {elt target iter : Expr} {ifs : List Expr} {scope : Scope} {cl : List (Str × Addr)} {pos : Pos} {n : Nat} {P : Nat → Value → Prop} {J : Nat → List Value → List (Addr × Obj) → Prop} {RR : Value → Addr → Result → Shared → Prop}
    (S : Src prog w A target xv s₁ n P) (hcell : ∀ y ∈ scope.names, y.2 ≠ .cell) (hkind : scope.kind = .function) (hsz : n ≤ sizeLine) (hJ0 : J 0 [] [])
    (turn : Turns prog w A env scope cl elt target ifs s₁ n P J)
    (fin : ∀ D C h' tk m ys tl k, J n ys tl → s₁.heap.objs.size ≤ D → s₁.heap.objs.size < C → D ≠ C → (∀ b o, s₁.heap.get? b = some o → h'.get? b = some o) → h'.get? D = some (listOf (List.toArray ys) k) → h'.Ns C m →
        (∀ p ∈ tl, h'.get? p.1 = some p.2 ∧ s₁.heap.get? p.1 = none ∧ p.1 ≠ D ∧ p.1 ≠ C) → RR (.ref D) C (.ok .next) { s₁ with heap := h', toks := tk }) :
    wpAny (model prog w) A (pyIter xv) (fun it s₂ => wpAny (model prog w) A (newList []) (fun acc s₃ => wpAny (model prog w) A (newFunctionEnv scope env.globals cl [] env.qual none .none (some env)) (fun cenv s₄ =>
      codeAny (model prog w) A (.compStart (.ListComp elt [⟨target, iter, ifs, 0⟩] scope pos) 0 it acc { cenv with scope := relabel scope env }) (RR acc cenv.locals) s₄) E s₃) E s₂) E s₁ := by
  refine S _ _ fun oI fp St W hfp' hof hlive' hst hgo => ?_
  generalize hs₂ : ({ s₁ with heap := s₁.heap.push oI } : Shared) = s₂
  have e₂ : s₂.heap = s₁.heap.push oI := by rw [← hs₂]
  have z₂ : s₂.heap.objs.size = s₁.heap.objs.size + 1 := by rw [e₂, Heap.size_push]
  have up₂ : ∀ b o, s₁.heap.get? b = some o → s₂.heap.get? b = some o := fun b o e => by rw [e₂]; exact Heap.get?_push_of_some _ e
  have hfp : ∀ b ∈ fp, ∃ o, s₂.heap.get? b = some o := fun b hb => by
    rcases hfp' b hb with rfl | ⟨o, e⟩
    · exact ⟨oI, by rw [e₂]; exact Heap.get?_push_size _ hof⟩
    · exact ⟨o, up₂ b o e⟩
  have hlive : ∀ i h, St i h → ∀ b ∈ [s₁.heap.objs.size], ∃ o, h.get? b = some o := fun i h st b hb => by rw [List.mem_singleton.mp hb]; exact hlive' i h st
  have hst : St 0 s₂.heap := by rw [e₂]; exact hst
  refine wpAny_newObj_type (wpAny_newFunctionEnv hcell (by intro y hy; simp at hy) (fun h₁ hns₁ hsb₁ => ?_) hkind)
  dsimp only at hns₁ hsb₁ ⊢
  generalize hH2 : s₂.heap.push { cls := .type "list", dict := none, data := .seq ([] : List Value).toArray } = H2 at hns₁ hsb₁ ⊢
  have hC : H2.objs.size = s₂.heap.objs.size + 1 := by rw [← hH2, Heap.size_push]
  have hDC : s₂.heap.objs.size < H2.objs.size := by rw [hC]; exact Nat.lt_succ_self _
  have old : ∀ b o, s₂.heap.get? b = some o → h₁.get? b = some o := fun b o e => hsb₁.extBut b o (Nat.ne_of_lt (Nat.lt_trans (Heap.lt_size e) hDC)) (Heap.get?_push_of_some _ (hH2 ▸ Heap.get?_push_of_some _ e))
  have fresh : ∀ a, s₂.heap.objs.size ≤ a → s₂.heap.get? a = none := fun a ha => by
    cases e : s₂.heap.get? a with
    | none => rfl
    | some o' => exact absurd (Heap.lt_size e) (Nat.not_lt.mpr ha)
  have freshH : ∀ a, s₂.heap.objs.size ≤ a → (hideAll s₂.heap [s₁.heap.objs.size]).get? a = none := fun a ha => by
    cases e : (hideAll s₂.heap [s₁.heap.objs.size]).get? a with
    | none => rfl
    | some o' => have := of_hideAll _ e; rw [fresh a ha] at this; cases this
  have upH : ∀ b o, s₁.heap.get? b = some o → (hideAll s₂.heap [s₁.heap.objs.size]).get? b = some o := fun b o e => hide_keep (up₂ b o e) (Nat.ne_of_lt (Heap.lt_size e))
  have F₁ : Fr (hideAll s₂.heap [s₁.heap.objs.size]) H2.objs.size h₁ (fun x => ([] : List (Str × Value)).reverse.lookup x) := ⟨hns₁, fun b o e => old b o (of_hideAll _ e), by rw [hideAll_size]; exact Nat.le_of_lt hDC⟩
  have eD : h₁.get? s₂.heap.objs.size = some (listOf #[] 0) := hsb₁.extBut _ _ (Nat.ne_of_lt hDC) (Heap.get?_push_of_some _ (hH2 ▸ Heap.get?_push_size _ rfl))
  have N₁ : News (hideAll s₂.heap [s₁.heap.objs.size]) H2.objs.size h₁ ([] ++ [(s₂.heap.objs.size, listOf #[] 0)]) := fun p hp => by
    rw [List.nil_append] at hp
    rw [List.mem_singleton.mp hp]
    exact ⟨eD, Nat.ne_of_lt hDC, freshH _ (Nat.le_refl _)⟩
  have st₁ : St 0 h₁ := W.frame _ _ _ hst fun b _ o e => old b o e
  have sz1 : s₁.heap.objs.size < H2.objs.size := by omega
  have loop : ∀ s₃ : Shared, s₃ = { s₂ with heap := h₁, toks := s₂.toks + ([] : List (Str × Value)).length } →
      codeAny (model prog w) A (.compLoop (.ListComp elt [⟨target, iter, ifs, 0⟩] scope pos) 0 (.ref s₁.heap.objs.size) (.ref s₂.heap.objs.size) (compEnvC scope cl H2.objs.size env))
        (RR (.ref s₂.heap.objs.size) H2.objs.size) s₃ := by
    rintro s₃ rfl
    refine compLoopR (Ow := fun ow => ow = []) W hgo (fun ow e p hp => by rw [e] at hp; cases hp) hlive hfp (fresh _ (Nat.le_refl _)) hDC (Nat.le_of_lt hDC) J
      (fun i v h tk m ow bs ys tl hi hv hJ how hw ⟨k, hD⟩ F N => by
        subst how
        exact turn _ s₂ _ i v h tk m bs ys tl upH ⟨_, hs₂.symm⟩ sz1 hi hv hJ ⟨_, k, hD⟩ F N) (fun h' tk m ow ys tl k hJ how F N htl => ?_) hsz st₁ F₁ N₁ rfl hJ0
    subst how
    obtain ⟨nD, nt⟩ := news_split (a := [_]) N
    have := fin s₂.heap.objs.size H2.objs.size h' tk m ys tl k hJ (by omega) sz1 (Nat.ne_of_lt hDC) (fun b o e => F.keep b o (upH b o e)) (nD _ (.head _)).1 F.ns fun p hp => ⟨(nt p hp).1, ?_, (htl p hp).1, (nt p hp).2.1⟩
    · subst hs₂; exact this
    · cases e : s₁.heap.get? p.1 with
      | none => rfl
      | some o => have := upH _ _ e; rw [(nt p hp).2.2] at this; cases this
  exact codeAny_compStart_list (loop _ rfl) (W.self 0 _ _ _ st₁ (loop _ rfl))

/-- a list comprehension as an expression -/
theorem listComp {E : Value → Shared → Prop} {env : Env} {s : Shared} {elt target iter : Expr} {ifs : List Expr} {scope : Scope} {cl : List (Str × Addr)} {pos : Pos} {Q : Value → Shared → Prop}
    (hclos : closureFor scope env = pure cl) (hcell : ∀ y ∈ scope.names, y.2 ≠ .cell) (hkind : scope.kind = .function)
    (hnames : ∀ y ∈ scope.names, y.2 = .local → scope.names.lookup y.1 = some .local)
    (h : wpAny (model prog w) A (eval iter env) (fun xv s₁ => ∃ (n : Nat) (P : Nat → Value → Prop) (J : Nat → List Value → List (Addr × Obj) → Prop), Src prog w A target xv s₁ n P ∧ n ≤ sizeLine ∧ J 0 [] [] ∧ Turns prog w A env scope cl elt target ifs s₁ n P J ∧
      (∀ D h' tk ys tl k, J n ys tl → s₁.heap.objs.size ≤ D → (∀ b o, s₁.heap.get? b = some o → h'.get? b = some o) → h'.get? D = some (listOf (List.toArray ys) k) →
        (∀ p ∈ tl, h'.get? p.1 = some p.2 ∧ s₁.heap.get? p.1 = none ∧ p.1 ≠ D) → Q (.ref D) { s₁ with heap := h', toks := tk })) E s)
    (hs : ∀ x, foldedSetIterable iter env x = pure x := by intro _; rfl) :
    wpAny (model prog w) A (eval (.ListComp elt [⟨target, iter, ifs, 0⟩] scope pos) env) Q E s := by
  rw [eval_ListComp]
  refine wpAny_comprehension_free (use := none) rfl hs hclos hkind hnames (wpAny_mono h (fun xv s₁ h₁ => ?_) fun _ _ e => e)
  obtain ⟨n, P, J, S, hsz, hJ0, turn, fin⟩ := h₁
  refine compBlock (RR := fun acc C => compPost (model prog w) A E none Q acc C) S hcell hkind hsz hJ0 turn fun D C h' tk m ys tl k hJ hD hC hDC hk eD hn htl => ?_
  exact ⟨m, hn, fun h'' hs'' => fin D h'' tk ys tl k hJ hD (fun b o e => hs''.extBut b o (Nat.ne_of_lt (Nat.lt_trans (Heap.lt_size e) hC)) (hk b o e)) (hs''.extBut _ _ hDC eD) fun p hp => ⟨hs''.extBut _ _ (htl p hp).2.2.2 (htl p hp).1, (htl p hp).2.1, (htl p hp).2.2.1⟩⟩

/-- y = [..], y a local of the line's own -/
theorem assignComp {E : Value → Shared → Prop} {env : Env} {s : Shared} {elt target iter : Expr} {ifs : List Expr} {scope : Scope} {cl : List (Str × Addr)} {y : Str} {py pos spos : Pos} {Q : Flow → Shared → Prop}
    (hsw : swapsWith (.ListComp elt [⟨target, iter, ifs, 0⟩] scope pos) (some (.Name y py)) spos.line env = pure true)
    (hclos : closureFor scope env = pure cl) (hcell : ∀ y ∈ scope.names, y.2 ≠ .cell) (hkind : scope.kind = .function)
    (hnames : ∀ y ∈ scope.names, y.2 = .local → scope.names.lookup y.1 = some .local)
    (hy : env.kindOf y = some .local) (hp : (env.scope.kind == .class || (env.scope.kind == .module && env.locals != env.globals)) = false)
    (h : wpAny (model prog w) A (eval iter env) (fun xv s₁ => ∃ (n : Nat) (P : Nat → Value → Prop) (J : Nat → List Value → List (Addr × Obj) → Prop) (m : Str → Option Value), Src prog w A target xv s₁ n P ∧ n ≤ sizeLine ∧ J 0 [] [] ∧ Turns prog w A env scope cl elt target ifs s₁ n P J ∧ s₁.heap.Ns env.locals m ∧
      (∀ D h' tk ys tl k, J n ys tl → s₁.heap.objs.size ≤ D → (∀ b o, b ≠ env.locals → s₁.heap.get? b = some o → h'.get? b = some o) → h'.get? D = some (listOf (List.toArray ys) k) → h'.Ns env.locals (fun z => if z = y then some (.ref D) else m z) →
        (∀ p ∈ tl, h'.get? p.1 = some p.2 ∧ s₁.heap.get? p.1 = none ∧ p.1 ≠ D) → Q .next { s₁ with heap := h', toks := tk })) E s)
    (hs : ∀ x, foldedSetIterable iter env x = pure x := by intro _; rfl) :
    wpAny (model prog w) A (exec (.Assign [.Name y py] (.ListComp elt [⟨target, iter, ifs, 0⟩] scope pos) spos) env) Q E s := by
  rw [exec_Assign_Name_used _ _ _ _ hsw]
  refine wpAny_bind (wpAny_standAt (wpAny_bind ?_))
  show wpAny _ A (do let _ ← comprehension (.ListComp elt [⟨target, iter, ifs, 0⟩] scope pos) scope env _ (newList []) false (eval iter env) (some (assign (.Name y py) env))) _ _ s
  refine wpAny_bind (wpAny_mono (wpAny_comprehension_free (use := some (assign (.Name y py) env)) (Q := fun _ s' => Q .next s') rfl hs hclos hkind hnames
    (wpAny_mono h (fun xv s₁ h₁ => ?_) fun _ _ e => e)) (fun _ s' hq => wpAny_pure (wpAny_pure hq)) fun _ _ e => e)
  obtain ⟨n, P, J, m, S, hsz, hJ0, turn, hL, fin⟩ := h₁
  have lL := hL.lt
  refine compBlock (RR := fun acc C => compPost (model prog w) A E (some (assign (.Name y py) env)) (fun _ s' => Q .next s') acc C) S hcell hkind hsz hJ0 turn fun D C h' tk m' ys tl k hJ hD hC hDC hk eD hn htl => ?_
  show wpAny _ A (assign (.Name y py) env (.ref D)) _ _ _
  refine wpAny_assign_Name (wpAny_storeName_local hy (hL.keeps hk) (fun h₂ hn₂ hs₂ => ?_) hp)
  have hLD : D ≠ env.locals := Nat.ne_of_gt (Nat.lt_of_lt_of_le lL hD)
  have hLC : C ≠ env.locals := Nat.ne_of_gt (Nat.lt_trans lL hC)
  refine ⟨m', hn.sameBut hs₂ hLC, fun h'' hs'' => fin D h'' _ ys tl k hJ hD (fun b o hb e => ?_) (hs''.extBut _ _ hDC (hs₂.extBut _ _ hLD eD)) (hn₂.sameBut hs'' (Ne.symm hLC)) fun p hp => ?_⟩
  · exact hs''.extBut b o (Nat.ne_of_lt (Nat.lt_trans (Heap.lt_size e) hC)) (hs₂.extBut b o hb (hk b o e))
  · have hpL : p.1 ≠ env.locals := fun q => by obtain ⟨_, _, _, e, _⟩ := hL; have := (htl p hp).2.1; rw [q, e] at this; cases this
    exact ⟨hs''.extBut _ _ (htl p hp).2.2.2 (hs₂.extBut _ _ hpL (htl p hp).1), (htl p hp).2.1, (htl p hp).2.2.1⟩
end
end Mine

end

section
open PySem PySem.W PyProof.Rows PySem.Calls
namespace Mine
theorem fmod_ex (x : Int) (k : Nat) (hk : 0 < k) : ∃ n : Nat, x.fmod k = n ∧ n < k := by
  refine ⟨(x.fmod k).toNat, ?_, ?_⟩ <;> rw [Int.fmod_eq_emod_of_nonneg _ (by omega)] <;> have h1 := Int.emod_nonneg x (b := (k : Int)) (by omega) <;> have h2 := Int.emod_lt_of_pos x (b := (k : Int)) (by omega) <;> omega
section
variable {M : Model} {A : Around} {E : Value → Shared → Prop} {s : Shared} {env : Env} {g : Heap} {C c : Addr} {m mg mb : Str → Option Value} {x : Str} {pos : Pos} {v : Value} {Q : Value → Shared → Prop} {K : Frag} {p : Program} {loose : List Str} {mean : ExcName → Option Value} {o : Obj}
theorem nmL (F : Fr g C s.heap m) (hv : m x = some v) (hL : env.locals = C) (hx : env.kindOf x = some .local) (hk : env.scope.kind = .function) (hd : (x == ("__debug__" : Str)) = false) (h : Q v s) :
    wpAny M A (eval (.Name x pos) env) Q E s := by subst hL; exact wpAny_Name (wpAny_loadName_local hk hx F.ns hv h) hd
/-- a cell that stands in the ground -/
theorem nmC (F : Fr g C s.heap m) (ho : g.get? c = some o) (hv : o.data = .cell (some v)) (hc : env.cells.lookup x = some c) (hx : env.kindOf x = some .cell) (hk : env.scope.kind = .function) (hd : (x == ("__debug__" : Str)) = false) (h : Q v s) :
    wpAny M A (eval (.Name x pos) env) Q E s := wpAny_Name (wpAny_loadName_cell hk hx hc ⟨o, F.keep _ _ ho, hv⟩ h) hd
theorem nmF (F : Fr g C s.heap m) (ho : g.get? c = some o) (hv : o.data = .cell (some v)) (hc : env.cells.lookup x = some c) (hx : env.kindOf x = some .free) (hk : env.scope.kind = .function) (hd : (x == ("__debug__" : Str)) = false) (hn : (x == ("__classdict__" : Str)) = false) (h : Q v s) :
    wpAny M A (eval (.Name x pos) env) Q E s := wpAny_Name (wpAny_loadName_free hk hx hc ⟨o, F.keep _ _ ho, hv⟩ h hn) hd
theorem nmK (F : Fr g C s.heap m) (X : K.In g) (T : Top p loose mean mg mb g) (e : nsIn K mainGlobals x = some (some v)) (hx : env.kindOf x = some .globalImplicit) (hg : env.globals = mainGlobals) (hk : env.scope.kind = .function) (hd : (x == ("__debug__" : Str)) = false) (h : Q v s) :
    wpAny M A (eval (.Name x pos) env) Q E s := Name_function_global hk hx (loadGlobal_global (by rw [hg]; exact T.g.keeps F.keep) (mg_of X T.g e) h) hd
theorem nmB (F : Fr g C s.heap m) (X : K.In g) (T : Top p loose mean mg mb g) (e : nsIn K mainGlobals x = some none) (hv : bootBuiltins x = some v) (hn : x ≠ "__name__") (hx : env.kindOf x = some .globalImplicit) (hg : env.globals = mainGlobals) (hb : env.builtins = builtinsNs) (hk : env.scope.kind = .function) (hd : (x == ("__debug__" : Str)) = false) (h : Q v s) :
    wpAny M A (eval (.Name x pos) env) Q E s :=
  Name_function_global hk hx (loadGlobal_builtin (by rw [hg]; exact T.g.keeps F.keep) (mg_none_of X T.g e) (by rw [hb]; exact T.b.keeps F.keep) ((T.builtins x hn).trans hv) h) hd
end

section
variable {prog : Program} {w : World} {A : Around} {E : Value → Shared → Prop} {Q : Value → Shared → Prop} {env : Env} {scope : Scope} {cl : List (Str × Addr)} {elt iter : Expr} {x : Str} {px : Pos} {ifs : List Expr} {s₁ : Shared} {n : Nat} {P : Nat → Value → Prop} {J : Nat → List Value → List (Addr × Obj) → Prop}
theorem tests_nil {cenv : Env} {s : Shared} {Q : Bool → Shared → Prop} (h : Q true s) : wpAny (model prog w) A (testsOf [] cenv) Q E s := wpAny_pure h
theorem tests_one {cenv : Env} {c : Expr} {s : Shared} {Q : Bool → Shared → Prop} (h : wpAny (model prog w) A (isTrue c cenv (eval c cenv)) Q E s) : wpAny (model prog w) A (testsOf [c] cenv) Q E s := wpAny_tests_one h
/-- turns whose target is one local name, without a test -/
theorem turns_name (hx : (compEnvC scope cl 0 env).kindOf x = some .local) (hk : scope.kind = .function)
    (h : ∀ g s₀ C i v h tk (m : Str → Option Value) bs ys tl, (∀ b o, s₁.heap.get? b = some o → g.get? b = some o) → (∃ h₀ , s₀ = { s₁ with heap := h₀ }) → s₁.heap.objs.size < C → i < n → P i v → J i ys tl → (∃ D k, (D, listOf (List.toArray ys) k) ∈ bs) → Fr g C h (fun y => if y = x then some v else m y) → News g C h (bs ++ tl) →
      wpAny (model prog w) A (testsOf ifs (compEnvC scope cl C env)) (fun ok s₅ =>
      if ok = true then wpAny (model prog w) A (eval elt (compEnvC scope cl C env)) (fun y s₆ => After g C (fun ow => ow = []) bs tl (J (i+1)) s₀ (ys ++ [y]) s₆) (fun _ _ => False) s₅
      else After g C (fun ow => ow = []) bs tl (J (i+1)) s₀ ys s₅) (fun _ _ => False) { s₀ with heap := h, toks := tk }) :
    Turns prog w A env scope cl elt (.Name x px) ifs s₁ n P J := by
  intro g s₀ C i v h₁ tk m bs ys tl hg hs hC hi hv hJ hD F N
  refine wpAny_assign_Name (wpAny_storeName_local hx F.ns (fun h' hn hs' => ?_) ?_)
  · exact h g s₀ C i v h' _ m bs ys tl hg hs hC hi hv hJ hD (F.set hn hs') (N.set hs')
  · show (scope.kind == .class || (scope.kind == .module && _)) = false
    rw [hk]; rfl
theorem After.none {g : Heap} {C : Addr} {bs tl : List (Addr × Obj)} {J : List Value → List (Addr × Obj) → Prop} {s₀ : Shared} {ys : List Value} {h : Heap} {tk : Tok} {m : Str → Option Value} (F : Fr g C h m) (N : News g C h (bs ++ tl)) (hJ : J ys tl) :
    After g C (fun ow => ow = []) bs tl J s₀ ys { s₀ with heap := h, toks := tk } := ⟨h, tk, m, [], [], rfl, F, N, rfl, (fun _ h => nomatch h), hJ⟩
end

theorem join_cps : ∀ ys : List Str, (Txt.join (Str.ofString "") ys).cps.toList = (ys.map fun y => y.cps.toList).flatten := by
  have h : ∀ ys : List Str, (Str.join (Str.ofString "") ys).cps.toList = (ys.map fun y => y.cps.toList).flatten := by
    intro ys
    induction ys with
    | nil => rfl
    | cons x r ih =>
      cases r with
      | nil => show x.cps.toList = _; simp
      | cons y r =>
        show (x ++ Str.ofString "" ++ Str.join (Str.ofString "") (y :: r)).cps.toList = _
        have e : (Str.ofString "").cps.toList = [] := by decide
        rw [Str.cps_append, Str.cps_append, Array.toList_append, Array.toList_append, ih, e]
        simp
  intro ys
  unfold Txt.join
  rw [StrLaws.glued_eq_join]
  exact h ys
theorem letters_join {P : Nat → Prop} {ss : List Str} (h : ∀ y ∈ ss, ∃ c, y = ⟨#[c]⟩ ∧ P c) : (Txt.join (Str.ofString "") ss).cps.size = ss.length ∧ ∀ c ∈ (Txt.join (Str.ofString "") ss).cps.toList, P c := by
  rw [← Array.length_toList, join_cps]
  induction ss with
  | nil => exact ⟨rfl, fun _ h => nomatch h⟩
  | cons x r ih =>
    obtain ⟨c, rfl, hc⟩ := h x (.head _)
    obtain ⟨h1, h2⟩ := ih fun y hy => h y (.tail _ hy)
    refine ⟨by simp [h1], fun d hd => ?_⟩
    simp only [List.map_cons, List.flatten_cons, List.cons_append, List.nil_append, List.mem_cons] at hd
    rcases hd with rfl | hd
    · exact hc
    · exact h2 d hd
theorem sum_ones {P : Nat → Prop} {ss : List Str} (h : ∀ y ∈ ss, ∃ c, y = ⟨#[c]⟩ ∧ P c) : (ss.map (·.length)).sum = ss.length := by
  induction ss with
  | nil => rfl
  | cons x r ih =>
    obtain ⟨c, rfl, _⟩ := h x (.head _)
    rw [List.map_cons, List.sum_cons, ih fun y hy => h y (.tail _ hy), List.length_cons]
    show 1 + _ = _; omega

/-- a statement that goes on, and what it leaves -/
def NextR (R : Shared → Prop) (f : Flow) (s' : Shared) : Prop := f = .next ∧ R s'
theorem NextR.mk {R : Shared → Prop} {s' : Shared} (h : R s') : NextR R .next s' := ⟨rfl, h⟩
/-- a statement apart, with what it leaves -/
theorem cutStmt {M : Model} {A : Around} {st : Stmt} {rest : List Stmt} {env : Env} {s : Shared} {Q : Flow → Shared → Prop} {E : Value → Shared → Prop} (R : Shared → Prop)
    (h1 : wpAny M A (exec st env) (NextR R) (fun _ _ => False) s) (h2 : ∀ s', R s' → wpAny M A (execs rest env) Q E s') : wpAny M A (execs (st :: rest) env) Q E s := by
  refine wpAny_execs_cons (wpAny_mono h1 (fun f s' h => ?_) fun _ _ x => x.elim)
  obtain ⟨rfl, h⟩ := h
  exact h2 s' h
theorem cutK {M : Model} {A : Around} {st : Stmt} {rest : List Stmt} {env : Env} {s : Shared} {Q : Flow → Shared → Prop} {E : Value → Shared → Prop} (R : Shared → Prop)
    (h1 : ∀ K : Flow → Shared → Prop, (∀ s', R s' → K .next s') → wpAny M A (exec st env) K (fun _ _ => False) s) (h2 : ∀ s', R s' → wpAny M A (execs rest env) Q E s') : wpAny M A (execs (st :: rest) env) Q E s :=
  cutStmt R (h1 _ fun _ => NextR.mk) h2
theorem item_abcd {q : Nat} (h : q < 4) : Txt.item (Str.ofString "abcd") (q : Int) = ⟨#[97 + q]⟩ := by
  have : q = 0 ∨ q = 1 ∨ q = 2 ∨ q = 3 := by omega
  rcases this with h | h | h | h <;> subst h <;> decide
end Mine

end

section
open PySem PySem.W PyProof.Rows PySem.Calls
namespace Mine
def IsLetter (c : Nat) : Prop := 97 ≤ c ∧ c ≤ 100
def IsName (y : Str) : Prop := y.cps.size ≤ 5 ∧ ∀ c ∈ y.cps.toList, IsLetter c
/-- an item of a pattern -/
inductive Item
  | lit (c : Nat)
  | any
  | set (neg : Bool) (l h : Nat) (mo : List Nat)
def txt (l : List Nat) : Str := ⟨l.toArray⟩
def Item.ok : Item → Prop
  | .lit c => IsLetter c
  | .any => True
  | .set _ l h mo => IsLetter l ∧ IsLetter h ∧ (mo = [] ∨ ∃ c, mo = [c] ∧ IsLetter c)
def Item.text : Item → List Nat
  | .lit c => [c]
  | .any => [63]
  | .set false l h mo => 91 :: l :: 45 :: h :: (mo ++ [93])
  | .set true l h mo => 91 :: 33 :: l :: 45 :: h :: (mo ++ [93])
def left (l h : Nat) (mo : List Nat) : List Nat := if l ≤ h then l :: 45 :: h :: mo else mo
def Item.part : Item → List Nat
  | .lit c => [c]
  | .any => [46]
  | .set false l h mo => if left l h mo = [] then [40, 63, 33, 41] else 91 :: (left l h mo ++ [93])
  | .set true l h mo => if left l h mo = [] then [46] else 91 :: 94 :: (left l h mo ++ [93])
def Item.has : Item → Nat → Bool
  | .lit c, d => d == c
  | .any, _ => true
  | .set neg l h mo, d => (decide (l ≤ d ∧ d ≤ h) || mo.contains d) != neg
def letters (f : Nat → Bool) (n : Nat) : List Str := (([97, 98, 99, 100].take n).filter f).map fun c => txt [c]
theorem abcd_txt0 : Str.ofString "abcd" = txt [97, 98, 99, 100] := by decide
/-- the second part of an item: a text or a list of signs -/
def MeansAt (tl : List (Addr × Obj)) (it : Item) (v : Value) : Prop :=
  match it with
  | .lit c => ∃ t, v = .str (txt [c]) t
  | .any => ∃ t, v = .str (txt [97, 98, 99, 100]) t
  | .set .. => ∃ T ys n, v = .ref T ∧ (T, listOf (List.toArray ys) n) ∈ tl ∧ StrsAre ys (letters it.has 4)
/-- an item's list -/
def ItemAt (tl : List (Addr × Obj)) (it : Item) (v : Value) : Prop :=
  it.ok ∧ ∃ T mv n t1 t2, v = .ref T ∧ MeansAt tl it mv ∧ (T, listOf #[.str (txt it.text) t1, mv, .str (txt it.part) t2] n) ∈ tl
theorem MeansAt.mono {tl tl' : List (Addr × Obj)} {it : Item} {v : Value} (h : MeansAt tl it v) (k : ∀ p ∈ tl, p ∈ tl') : MeansAt tl' it v := by
  cases it with
  | lit c => exact h
  | any => exact h
  | set a b c d => obtain ⟨T, ys, n, e, m, r⟩ := h; exact ⟨T, ys, n, e, k _ m, r⟩
theorem ItemAt.mono {tl tl' : List (Addr × Obj)} {it : Item} {v : Value} (h : ItemAt tl it v) (k : ∀ p ∈ tl, p ∈ tl') : ItemAt tl' it v := by
  obtain ⟨o, T, mv, n, t1, t2, e, m, r⟩ := h
  exact ⟨o, T, mv, n, t1, t2, e, m.mono k, k _ r⟩
theorem item_any {tl : List (Addr × Obj)} {T : Addr} {a b c : Str} {t1 t2 t3 : Tok} {n : Nat} (m : (T, listOf #[.str a t1, .str b t2, .str c t3] n) ∈ tl) (ea : a = txt [63]) (eb : b = txt [97, 98, 99, 100]) (ec : c = txt [46]) : ItemAt tl .any (.ref T) := by
  subst ea; subst eb; subst ec
  exact ⟨trivial, T, _, n, t1, t3, rfl, ⟨t2, rfl⟩, m⟩
theorem item_lit {tl : List (Addr × Obj)} {T : Addr} {q : Nat} {t1 t2 t3 : Tok} {n : Nat} (h : q < 4) (m : (T, listOf #[.str ⟨#[97 + q]⟩ t1, .str ⟨#[97 + q]⟩ t2, .str ⟨#[97 + q]⟩ t3] n) ∈ tl) : ItemAt tl (.lit (97 + q)) (.ref T) :=
  ⟨⟨by omega, by omega⟩, T, _, n, t1, t3, rfl, ⟨t2, rfl⟩, m⟩
theorem item_set {tl : List (Addr × Obj)} {T T2 : Addr} {neg : Bool} {l h : Nat} {mo : List Nat} {a c : Str} {t1 t3 : Tok} {n n2 : Nat} {ys : List Value} (ok : (Item.set neg l h mo).ok) (m : (T, listOf #[.str a t1, .ref T2, .str c t3] n) ∈ tl) (m2 : (T2, listOf (List.toArray ys) n2) ∈ tl) (hy : StrsAre ys (letters (Item.set neg l h mo).has 4))
    (ea : a = txt (Item.set neg l h mo).text) (ec : c = txt (Item.set neg l h mo).part) : ItemAt tl (.set neg l h mo) (.ref T) := by
  subst ea; subst ec
  exact ⟨ok, T, _, n, t1, t3, rfl, ⟨T2, ys, n2, rfl, m2, hy⟩, m⟩
theorem news_new {g h h' : Heap} {L D : Addr} {m : Str → Option Value} {o : Obj} {news : List (Addr × Obj)} (F : Fr g L h m) (N : News g L h' news) (hD : h.objs.size ≤ D) (e : h'.get? D = some o) : News g L h' ((D, o) :: news) := fun p hp => by
  rcases List.mem_cons.mp hp with rfl | hp
  · refine ⟨e, Nat.ne_of_gt (Nat.lt_of_lt_of_le F.ns.lt hD), ?_⟩
    cases q : g.get? D with
    | none => rfl
    | some o => exact absurd (Heap.lt_size (F.keep _ _ q)) (Nat.not_lt.mpr hD)
  · exact N p hp
theorem sgl_lt (a b : Nat) : decide ((⟨#[a]⟩ : Str).cps.toList < (⟨#[b]⟩ : Str).cps.toList) = decide (a < b) := by
  by_cases h : a < b
  · rw [decide_eq_true h]; exact decide_eq_true (List.Lex.rel h)
  · rw [decide_eq_false h]; exact decide_eq_false fun q => by
      cases q with
      | cons q => cases q
      | rel q => exact h q
theorem letters_succ (f : Nat → Bool) {i : Nat} (h : i < 4) : letters f (i + 1) = letters f i ++ (if f (97 + i) = true then [⟨#[97 + i]⟩] else []) := by
  have : i = 0 ∨ i = 1 ∨ i = 2 ∨ i = 3 := by omega
  rcases this with h | h | h | h <;> subst h <;> simp only [letters, List.take_succ_cons, List.take_zero, List.filter_cons, List.filter_nil] <;> (repeat' split) <;> simp_all <;> rfl
theorem lt1 (a b : Nat) : ([a] < [b]) = (a < b) := propext ⟨fun q => by
      cases q with
      | cons q => cases q
      | rel q => exact q, fun h => List.Lex.rel h⟩
theorem eq_mo {c : Nat} {mo : List Nat} (h : mo = [] ∨ ∃ d, mo = [d]) : ((⟨#[c]⟩ : Str) == ⟨mo.toArray⟩) = mo.contains c := by
  rcases h with rfl | ⟨d, rfl⟩
  · rfl
  · by_cases q : c = d
    · subst q; simp
    · have : ((⟨#[c]⟩ : Str) == ⟨[d].toArray⟩) = false := by
        refine beq_eq_false_iff_ne.mpr fun e => q ?_
        have := congrArg (fun s => s.cps.toList) e
        simpa using this
      rw [this]; simp [q]
/-- a test and what it says -/
def IsR (b : Bool) (s : Shared) (ok : Bool) (s' : Shared) : Prop := ok = b ∧ s' = s
theorem tests_is {prog : Program} {w : World} {A : Around} {cenv : Env} {c : Expr} {s : Shared} {Q : Bool → Shared → Prop} (b : Bool) (h : wpAny (model prog w) A (isTrue c cenv (eval c cenv)) (IsR b s) (fun _ _ => False) s) (h2 : Q b s) : wpAny (model prog w) A (testsOf [c] cenv) Q (fun _ _ => False) s :=
  tests_one (wpAny_mono h (fun ok s' ⟨e, es⟩ => by subst e; subst es; exact h2) fun _ _ x => x)
theorem is_set1 {l h c : Nat} {mo : List Nat} {b : Bool} (e : (decide (l ≤ c ∧ c ≤ h) || mo.contains c) = b) (h1 : (!decide ((⟨#[c]⟩ : Str).cps.toList < (⟨#[l]⟩ : Str).cps.toList)) = true) (h2 : (!decide ((⟨#[h]⟩ : Str).cps.toList < (⟨#[c]⟩ : Str).cps.toList)) = true) : true = b := by
  rw [sgl_lt] at h1 h2
  simp only [Bool.not_eq_true', decide_eq_false_iff_not, Nat.not_lt] at h1 h2
  rw [← e, decide_eq_true ⟨h1, h2⟩]; rfl
theorem is_set2 {l h c : Nat} {mo : List Nat} {b : Bool} (hm : mo = [] ∨ ∃ d, mo = [d]) (e : (decide (l ≤ c ∧ c ≤ h) || mo.contains c) = b) (h1 : ((⟨#[c]⟩ : Str) == ⟨mo.toArray⟩) = true) : true = b := by
  rw [eq_mo hm] at h1
  rw [← e, h1, Bool.or_true]
theorem is_set3 {l h c : Nat} {mo : List Nat} {b : Bool} (hm : mo = [] ∨ ∃ d, mo = [d]) (e : (decide (l ≤ c ∧ c ≤ h) || mo.contains c) = b)
    (h0 : ¬ (!decide ((⟨#[c]⟩ : Str).cps.toList < (⟨#[l]⟩ : Str).cps.toList)) = true ∨ ¬ (!decide ((⟨#[h]⟩ : Str).cps.toList < (⟨#[c]⟩ : Str).cps.toList)) = true) (h1 : ¬ ((⟨#[c]⟩ : Str) == ⟨mo.toArray⟩) = true) : false = b := by
  rw [eq_mo hm] at h1
  rw [sgl_lt, sgl_lt] at h0
  simp only [Bool.not_eq_true', decide_eq_false_iff_not, Nat.not_lt] at h0
  rw [← e, decide_eq_false (by omega), eq_false_of_ne_true h1]; rfl
theorem txt_app (a b : List Nat) : txt a ++ txt b = txt (a ++ b) := PySem.Str.ext' (by rw [PySem.Str.cps_append]; simp [txt])
theorem sgl_txt (c : Nat) : (⟨#[c]⟩ : Str) = txt [c] := rfl
theorem arr_txt (l : List Nat) : (⟨l.toArray⟩ : Str) = txt l := rfl
theorem lit_e : Str.ofString "" = txt [] := by decide
theorem lit_d : Str.ofString "-" = txt [45] := by decide
theorem lit_o : Str.ofString "[" = txt [91] := by decide
theorem lit_on : Str.ofString "[!" = txt [91, 33] := by decide
theorem lit_oc : Str.ofString "[^" = txt [91, 94] := by decide
theorem lit_c : Str.ofString "]" = txt [93] := by decide
theorem lit_p : Str.ofString "." = txt [46] := by decide
theorem lit_n : Str.ofString "(?!)" = txt [40, 63, 33, 41] := by decide
theorem txt_inj {a b : List Nat} : txt a = txt b ↔ a = b := ⟨fun h => by have := congrArg (fun s => s.cps.toList) h; simpa [txt] using this, fun h => h ▸ rfl⟩
theorem not_lt_of {a b : Nat} (h : (!decide ((⟨#[a]⟩ : Str).cps.toList < (⟨#[b]⟩ : Str).cps.toList)) = true) : b ≤ a := by
  rw [sgl_lt] at h
  simpa only [Bool.not_eq_true', decide_eq_false_iff_not, Nat.not_lt] using h
theorem lt_of_not {a b : Nat} (h : ¬ (!decide ((⟨#[a]⟩ : Str).cps.toList < (⟨#[b]⟩ : Str).cps.toList)) = true) : a < b := by
  rw [sgl_lt] at h
  simpa only [Bool.not_eq_true', decide_eq_false_iff_not, Nat.not_lt, Nat.not_le] using h
theorem left_len (l h : Nat) {mo : List Nat} (hm : mo = [] ∨ ∃ d, mo = [d]) : (txt (left l h mo)).length ≤ 4 := by
  unfold left
  rcases hm with rfl | ⟨d, rfl⟩ <;> split <;> simp [txt, PySem.Str.length]
theorem left_ne {l h : Nat} {mo : List Nat} (e : (txt (left l h mo) != Str.ofString "") = true) : left l h mo ≠ [] := fun q => by
  rw [q, ← lit_e] at e; simp at e
theorem left_eq {l h : Nat} {mo : List Nat} (e : ¬ (txt (left l h mo) != Str.ofString "") = true) : left l h mo = [] := by
  rw [lit_e] at e
  have : txt (left l h mo) = txt [] := by simpa using e
  exact txt_inj.mp this
theorem any_letters (f : Nat → Bool) {i : Nat} (h : i < 4) : (letters f 4).any (· == ⟨#[97 + i]⟩) = f (97 + i) := by
  have e : ∀ a b : Nat, (txt [a] == (⟨#[b]⟩ : Str)) = (a == b) := fun a b => by
    by_cases q : a = b
    · subst q; rw [← sgl_txt]; simp
    · rw [← sgl_txt, beq_eq_false_iff_ne.mpr q]
      exact beq_eq_false_iff_ne.mpr fun z => q (by simpa using congrArg (fun s => s.cps.toList) z)
  unfold letters
  rw [List.any_map, List.any_filter]
  simp only [List.take_succ_cons, List.take_zero, List.any_cons, List.any_nil, Function.comp_apply, e]
  have : i = 0 ∨ i = 1 ∨ i = 2 ∨ i = 3 := by omega
  rcases this with h | h | h | h <;> subst h <;> simp
theorem has_neg {l h c : Nat} {mo : List Nat} : (Item.set true l h mo).has c = !(Item.set false l h mo).has c := by
  simp [Item.has]
/-- what stands in a part's brackets, and whether it takes the sign d -/
inductive Body (d : Nat) : List Nat → Bool → Prop
  | one (m : Nat) : IsLetter m → Body d [m] (d == m)
  | rng (l h : Nat) : IsLetter l → IsLetter h → Body d [l, 45, h] (decide (l ≤ d ∧ d ≤ h))
  | both (l h m : Nat) : IsLetter l → IsLetter h → IsLetter m → Body d [l, 45, h, m] (decide (l ≤ d ∧ d ≤ h) || d == m)
theorem body_of {l h d : Nat} {mo : List Nat} (hl : IsLetter l) (hh : IsLetter h) (hm : mo = [] ∨ ∃ c, mo = [c] ∧ IsLetter c) (hn : left l h mo ≠ []) : Body d (left l h mo) (decide (l ≤ d ∧ d ≤ h) || mo.contains d) := by
  unfold left at hn ⊢
  by_cases q : l ≤ h
  · rw [if_pos q]
    rcases hm with rfl | ⟨c, rfl, hc⟩
    · have := Body.rng (d := d) l h hl hh
      simpa using this
    · simp only [List.contains_cons, List.contains_nil, Bool.or_false]
      exact Body.both l h c hl hh hc
  · rw [if_neg q] at hn ⊢
    rcases hm with rfl | ⟨c, rfl, hc⟩
    · exact absurd rfl hn
    · rw [decide_eq_false (by omega)]
      simp only [List.contains_cons, List.contains_nil, Bool.or_false, Bool.false_or]
      exact Body.one c hc
def ng : Bool → List Nat
  | true => [94]
  | false => []
theorem part_cases (it : Item) (ok : it.ok) (d : Nat) :
    (it.part = [46] ∧ it.has d = true) ∨ (it.part = [40, 63, 33, 41] ∧ it.has d = false) ∨ (∃ c, IsLetter c ∧ it.part = [c] ∧ it.has d = (d == c)) ∨
    (∃ (neg : Bool) (body : List Nat) (P : Bool), Body d body P ∧ it.part = 91 :: (ng neg ++ (body ++ [93])) ∧ it.has d = (P != neg)) := by
  cases it with
  | lit c => exact .inr (.inr (.inl ⟨c, ok, rfl, rfl⟩))
  | any => exact .inl ⟨rfl, rfl⟩
  | set neg l h mo =>
    obtain ⟨o1, o2, o3⟩ := ok
    by_cases q : left l h mo = []
    · have hlh : ¬ l ≤ h := fun z => by rw [left, if_pos z] at q; cases q
      have hmo : mo = [] := by rw [left, if_neg hlh] at q; exact q
      subst hmo
      have e : decide (l ≤ d ∧ d ≤ h) = false := decide_eq_false (by omega)
      cases neg
      · exact .inr (.inl ⟨by rw [Item.part, if_pos q], by simp [Item.has, e]⟩)
      · exact .inl ⟨by rw [Item.part, if_pos q], by simp [Item.has, e]⟩
    · refine .inr (.inr (.inr ⟨neg, _, _, body_of o1 o2 o3 q, ?_⟩))
      cases neg
      · exact ⟨by rw [Item.part, if_neg q]; rfl, by simp [Item.has]⟩
      · exact ⟨by rw [Item.part, if_neg q]; rfl, by simp [Item.has]⟩
theorem Body.len {d : Nat} {b : List Nat} {P : Bool} (h : Body d b P) : b.length ≤ 4 := by cases h <;> simp
theorem Body.first {d : Nat} {b : List Nat} {P : Bool} (h : Body d b P) : ∃ c r, b = c :: r ∧ IsLetter c := by
  cases h with
  | one m hm => exact ⟨_, _, rfl, hm⟩
  | rng l h hl hh => exact ⟨_, _, rfl, hl⟩
  | both l h m hl hh hm => exact ⟨_, _, rfl, hl⟩
theorem txt_beq (a b : List Nat) : (txt a == txt b) = decide (a = b) := by
  by_cases q : a = b
  · subst q; simp
  · rw [decide_eq_false q]; exact beq_eq_false_iff_ne.mpr fun z => q (txt_inj.mp z)
theorem txt_bne (a b : List Nat) : (txt a != txt b) = !decide (a = b) := by rw [bne, txt_beq]
theorem not_two {l : List Nat} (h : l ≠ [46]) (h2 : l ≠ [40, 63, 33, 41]) : ¬ ([Str.ofString ".", Str.ofString "(?!)"].any fun x => x == txt l) = true := by
  rw [lit_n, lit_p]
  simp only [List.any_cons, List.any_nil, txt_beq, Bool.or_false]
  rw [decide_eq_false (Ne.symm h), decide_eq_false (Ne.symm h2)]
  exact Bool.false_ne_true
theorem sign_abcd {i : Nat} {v : Value} (h : i < 4) (hv : SignAt (Str.ofString "abcd") i v) : ∃ t, v = .str ⟨#[97 + i]⟩ t := by
  obtain ⟨c, u, hc, rfl⟩ := hv
  rw [abcd_txt0] at hc
  have : i = 0 ∨ i = 1 ∨ i = 2 ∨ i = 3 := by omega
  rcases this with h | h | h | h <;> subst h <;> cases hc <;> exact ⟨u, rfl⟩
theorem abcd_txt : Str.ofString "abcd" = txt [97, 98, 99, 100] := by decide
end Mine

end

section
open PySem PySem.W PyProof.Rows PySem.Calls
namespace Mine
theorem typeOf_append : typeOf (.builtin "list.append") = pure (.type "method_descriptor") := by kernel_rfl
theorem slot_md_get : Slot "method_descriptor" "__get__" "method_descriptor.__get__" :=
  .of (owner := "method_descriptor") (n := "__get__") (by rw [typeLookup_type, builtinLookup_eq_fast]; kernel_rfl) (by decide +kernel) (by decide +kernel) (by decide +kernel)
    (by first | exact .inl (by decide +kernel) | exact .inr (by decide +kernel)) (by rw [isSubtype_type]; kernel_rfl)
theorem md_set_none : typeLookup (.type "method_descriptor") "__set__" = pure none := by rw [typeLookup_type, builtinLookup_eq_fast]; kernel_rfl
theorem md_del_none : typeLookup (.type "method_descriptor") "__delete__" = pure none := by rw [typeLookup_type, builtinLookup_eq_fast]; kernel_rfl
theorem entry_md_get : entryFor table "method_descriptor.__get__" = some Builtin.«method_descriptor.__get__» := entryFor_of_tree (by kernel_rfl)
theorem args_md_get (a b c : Value) : argsOk "method_descriptor.__get__" ⟨[a, b, c], []⟩ := by unfold argsOk; kernel_rfl
theorem told_append : Manifest.toldItsClass.contains "list.append" = false := by decide +kernel
theorem owner_append : (".".intercalate ("list.append".cutAt '.').dropLast) = "list" := by
  have e0 : "list.append".cutAt '.' = ["list", "append"] := by first | rfl | decide +kernel
  rw [e0]; decide +kernel
theorem sub_append_owner : isSubtype (.type "list") (.type (".".intercalate ("list.append".cutAt '.').dropLast)) = pure true := by
  rw [owner_append, isSubtype_type]; kernel_rfl
theorem entry_list_ga : entryFor table "list.__getattribute__" = some Builtin.«object.__getattribute__» := F.entry_list_ga
def boundObj (a : Addr) : Obj := { cls := .type "builtin_function_or_method", data := .fields #[.builtin "list.append", .ref a] }
section
variable {prog : Program} {w : World} {A : Around} {E : Value → Shared → Prop} {h : Heap} {g : Array GenState} {d : Drawn} {t : Nat} {os : OsState} {a : Addr} {o : Obj}
theorem md_get {R : Result → Shared → Prop} (hx : h.get? a = some o) (hc : o.cls = .type "list") (hq : R (.ok (.ret (.ref h.objs.size))) ⟨h.push (boundObj a), g, d, t, os⟩) :
    codeAny (model prog w) A (.call (.builtin "method_descriptor.__get__") ⟨[.builtin "list.append", .ref a, .type "list"], []⟩) R ⟨h, g, d, t, os⟩ := by
  have hT : (⟨h, g, d, t, os⟩ : Shared).TypeIs (.ref a) "list" := ⟨_, hx, hc⟩
  have hT5 : (⟨h, g, d, t, os⟩ : Shared).TypeIs (.builtin "list.append") "method_descriptor" := typeOf_append
  refine codeAny_call_builtin slot_md_get.plain entry_md_get (slot_md_get.check _ _ _ _ _ _ _ _ hT5 (args_md_get _ _ _) ?_)
  have f8 := sub_append_owner
  unfold Builtin.«method_descriptor.__get__»
  repeat (any_goals (first | assumption | wp_step))
theorem append_entry {tk : Tok} {Q : Fin → Shared → Prop} {xs : Array Value} {k : Nat} {sl : Array (Option Value)} (hx : h.get? a = some { cls := .type "list", dict := none, data := .seq xs k, slots := sl }) (hq : Q (.done (.ret (.ref h.objs.size))) ⟨h.push (boundObj a), g, d, t, os⟩) :
    wpAny (model prog w) A (Builtin.«object.__getattribute__» ⟨[.ref a, .str "append" tk], []⟩) Q E ⟨h, g, d, t, os⟩ := by
  have hT : (⟨h, g, d, t, os⟩ : Shared).TypeIs (.ref a) "list" := ⟨_, hx, rfl⟩
  have f4 := F.slot_list_append.lookup
  have f5 := typeOf_append
  have f6 := slot_md_get.lookup
  have f7 := md_set_none
  have f9 := md_del_none
  unfold Builtin.«object.__getattribute__»
  repeat (any_goals (first | assumption | wp_step))
  refine md_get hx rfl ?_
  repeat (any_goals (first | assumption | wp_step))
theorem get_append {Q : Value → Shared → Prop} {xs : Array Value} {k : Nat} {sl : Array (Option Value)} (hx : h.get? a = some { cls := .type "list", dict := none, data := .seq xs k, slots := sl }) (hq : Q (.ref h.objs.size) ⟨h.push (boundObj a), g, d, t + 1, os⟩) :
    wpAny (model prog w) A (getAttr (.ref a) "append" true) Q E ⟨h, g, d, t, os⟩ := by
  have hT : ∀ tk', (⟨h, g, d, tk', os⟩ : Shared).TypeIs (.ref a) "list" := fun _ => ⟨_, hx, rfl⟩
  have f3 := F.slot_list_getattribute.lookup
  have f4 := F.slot_list_getattribute.bind (.ref a)
  unfold getAttr getAttrBy
  repeat (any_goals (first | assumption | exact hT _ | wp_step))
  refine codeAny_call_builtin F.slot_list_getattribute.plain F.entry_list_ga (F.slot_list_getattribute.check _ _ _ _ _ _ _ _ (hT _) (F.args_list_getattribute_2 _ _) (append_entry hx ?_))
  repeat (any_goals (first | assumption | exact hT _ | wp_step))
theorem list_not_module : isSubtype (.type "list") (.type "module") = pure false := by rw [isSubtype_type]; kernel_rfl
theorem append_not_var : Manifest.varargsMethods.contains "list.append" = false := by decide +kernel
theorem list_not_type : isSubtype (.type "list") (.type "type") = pure false := by rw [isSubtype_type]; kernel_rfl
theorem kind_append : builtinKind "list.append" = some .method := by decide +kernel
theorem sig_append : ∃ sig, Manifest.signature? "list.append" = some sig ∧ ∀ a x : Value, Bind.checkArgs "list.append" { sig with full := s!"{Bind.lastOf "list"}.{Bind.lastOf "list.append"}" } ⟨[a, x], []⟩ = pure () :=
  ⟨{ machinery := Manifest.Machinery.oneArg, full := "list.append", short := "append", receiver := Manifest.Receiver.self, params := [{ name := "object", kind := Manifest.ParamKind.posOnly, required := true }] }, by rw [signature?_of (id := "list.append") (n := ['d', 'n', 'e', 'p', 'p', 'a']) (o := ['t', 's', 'i', 'l']) (by kernel_rfl) F.owner_list]; kernel_rfl, fun a x => by kernel_rfl⟩
theorem check_append {s : Shared} {x : Value} {Q : Unit → Shared → Prop} {xs : Array Value} {k : Nat} {sl : Array (Option Value)} (hx : s.heap.get? a = some { cls := .type "list", dict := none, data := .seq xs k, slots := sl }) (h : Q () s) : wpAny (model prog w) A (checkBoundCall "list.append" ⟨[.ref a, x], []⟩) Q E s := by
  have hT : s.TypeIs (.ref a) "list" := ⟨_, hx, rfl⟩
  obtain ⟨sig, hs, hk⟩ := sig_append
  unfold checkBoundCall
  rw [hs, kind_append]
  dsimp only
  rw [if_neg (by decide)]
  refine wpAny_bind (wpAny_isInstance hT list_not_module ?_)
  rw [if_neg (by rw [append_not_var]; decide)]
  refine wpAny_bind ?_
  unfold isType
  dsimp only
  refine wpAny_bind (wpAny_loadPart (part := some headPart) hx (wpAny_pure ?_))
  dsimp only
  rw [if_neg (by decide)]
  refine wpAny_bind (wpAny_typeOf hT ?_)
  dsimp only
  exact wpAny_of_eq (hk _ _) h
theorem call_bound {s : Shared} {q : Addr} {x : Value} {Q : Value → Shared → Prop} {xs : Array Value} {k : Nat} (hx : s.heap.get? a = some (listOf xs k)) (hq : s.heap.get? q = some (boundObj a)) (hz : xs.size ≤ 1000)
    (h : ∀ h' n, h'.get? a = some (listOf (xs.push x) n) → Heap.SameBut a s.heap h' → Q .none { s with heap := h' }) :
    wpAny (model prog w) A (call (.ref q) [x]) Q E s := by
  refine wpAny_call (codeAny_of_tree ?_)
  show wpAny _ _ (callAny (.ref q) ⟨[x], []⟩) _ _ _
  unfold callAny
  refine wpAny_bind (wpAny_load hq ?_)
  dsimp only [boundObj]
  rw [if_pos (by rfl)]
  show wpAny _ _ (do checkBoundCall "list.append" ⟨[.ref a, x], []⟩; again (.builtin "list.append" ⟨[.ref a, x], []⟩)) _ _ _
  refine wpAny_bind (check_append hx (wpAny_pure ⟨Code.quiet_builtin _ (by decide +kernel), codeAny_builtin F.entry_list_append ?_⟩))
  show wpAny _ _ (updateSeq a (·.push x) >>= fun _ => ret .none) _ _ s
  refine wpAny_bind ?_
  refine wpAny_updateSeq hx rfl (wpAny_pure (h _ (k + 1) ?_ (Heap.SameBut.update ..))) (by rw [sizeLine_eq]; omega)
  rw [Heap.get?_update_self _ hx (by rw [Obj.mapSeq_push_plain]; rfl), Obj.mapSeq_push_plain]
/-- a call of the bound append by its name -/
theorem callWith_bd {M : Model} {s : Shared} {pos : Pos} {q : Addr} {env : Env} {e : Expr} {rest : List Expr} {Q : Value → Shared → Prop}
    (h : wpAny M A (spliced (backTo pos (starEach (e :: rest) env))) (fun vs s₁ => s₁.heap.get? q = some (boundObj a) ∧ wpAny M A (call (.ref q) vs) Q E s₁) E s)
    (he : starEach (e :: rest) env = (false, eval e env) :: starEach rest env := by rfl) (hp : (backTo pos (starEach rest env)).any (·.1) = false := by rfl) :
    wpAny M A (callWith pos (.ref q) [] (backTo pos (starEach (e :: rest) env)) []) Q E s := by
  rw [he] at h ⊢
  have hany : (backTo pos ((false, eval e env) :: starEach rest env)).any (·.1) = false := by
    show (false || (backTo pos (starEach rest env)).any (·.1)) = false
    rw [hp]; rfl
  have key : wpAny M A (evalArgs (.ref q) true (backTo pos ((false, eval e env) :: starEach rest env)) []) (fun x s₁ => s₁.heap.get? q = some (boundObj a) ∧ wpAny M A (call (.ref q) ([] ++ x.pos) x.kw) Q E s₁) E s := evalArgs_plain h
  unfold callWith
  refine wpAny_bind (wpAny_holding (wpAny_mono key (fun x s₁ h₁ => wpAny_bind (wpAny_standAt ?_)) fun _ _ x => x))
  obtain ⟨ho, hcall⟩ := h₁
  simp only [hany, List.any_nil, Bool.or_false]
  refine wpAny_bind (m := keeperOf (.ref q)) ?_
  unfold keeperOf
  refine wpAny_bind (wpAny_load ho ?_)
  dsimp only [boundObj]
  rw [if_pos (by rfl), if_pos (by rfl)]
  refine wpAny_pure ?_
  exact wpAny_bind (wpAny_mono hcall (fun r s₂ hr => wpAny_bind (wpAny_holding (wpAny_point (wpAny_pure hr)))) fun _ _ x => x)
end
theorem news_put {g h h' : Heap} {L AD D T : Addr} {oA o o' oT : Obj} (N : News g L h [(AD, oA), (D, o), (T, oT)]) (hs : Heap.SameBut D h h') (e : h'.get? D = some o') (h1 : AD ≠ D) (h2 : T ≠ D) : News g L h' [(AD, oA), (D, o'), (T, oT)] := fun p hp => by
  rcases List.mem_cons.mp hp with rfl | hp
  · exact ⟨hs.extBut _ _ h1 (N.get (.head _)), (N _ (.head _)).2⟩
  · rcases List.mem_cons.mp hp with rfl | hp
    · exact ⟨e, (N _ (.tail _ (.head _))).2⟩
    · rw [List.mem_singleton.mp hp]
      exact ⟨hs.extBut _ _ h2 (N.get (.tail _ (.tail _ (.head _)))), (N _ (.tail _ (.tail _ (.head _)))).2⟩
theorem strs_len {vs : List Value} {ys : List Str} (h : StrsAre vs ys) : vs.length = ys.length := by
  induction h with
  | nil => rfl
  | cons _ _ _ ih => simp [ih]
end Mine

end

section
open PySem PySem.W PyProof.Rows PySem.Calls
namespace Mine
def clipI (v : Option Int) (d n : Int) : Int := match v with
  | none => d
  | some i => max 0 (min (if i < 0 then i + n else i) n)
theorem pick_range (l : List Nat) : ∀ (n a : Nat), a + n ≤ l.length → ((List.range n).map fun k => a + k).filterMap (l[·]?) = (l.drop a).take n := by
  intro n
  induction n with
  | zero => intro a _; simp
  | succ n ih =>
    intro a h
    rw [List.range_succ, List.map_append, List.filterMap_append, ih a (by omega)]
    simp only [List.map_cons, List.map_nil, List.filterMap_cons, List.filterMap_nil]
    rw [List.getElem?_eq_getElem (by omega)]
    simp only
    rw [List.take_add_one, List.getElem?_drop, List.getElem?_eq_getElem (by omega)]
    rfl
theorem slice_is {l : List Nat} {lo hi : Option Int} (a b : Nat) (ha : clipI lo 0 l.length = a) (hb : clipI hi l.length l.length = b) (hl : b ≤ l.length) (hab : a ≤ b) : Txt.slice (txt l) lo hi = txt ((l.drop a).take (b - a)) := by
  have hlen : (txt l).length = l.length := by simp [txt, PySem.Str.length]
  have e : Builtin.Str.strSliceIndices lo hi 1 (txt l).length = (List.range (b - a)).map fun k => a + k := by
    have h1 : (1 : Int) > 0 := by decide
    have e0 : ∀ n : Nat, Builtin.Str.strSliceIndices lo hi 1 n = sliceRange (clipI lo 0 n) (clipI hi n n) 1 := fun n => by cases lo <;> cases hi <;> rfl
    rw [e0, hlen, ha, hb]
    unfold sliceRange
    rw [if_pos h1]
    have ec : (if (a : Int) < (b : Int) then ((b : Int) - a + 1 - 1) / 1 else 0).toNat = b - a := by
      split
      · rw [Int.ediv_one]; omega
      · omega
    dsimp only
    rw [ec]
    refine List.map_congr_left fun k _ => ?_
    omega
  unfold Txt.slice
  rw [e, List.length_map, List.length_range, hlen]
  split
  · rename_i h
    have h : b - a = l.length := by simpa using h
    have : a = 0 := by omega
    have : b = l.length := by omega
    subst a; subst b
    simp
  · have := pick_range l (b - a) a (by omega)
    show Str.mk _ = _
    unfold txt
    congr 1
    rw [← this]
    simp
theorem char_at {l : List Nat} (i : Nat) {c : Nat} (h : l[i]? = some c) : Txt.charAt (txt l) (i : Int) = some c := by
  have hlt : i < l.length := by rw [List.getElem?_eq_some_iff] at h; exact h.1
  have hlen : (txt l).length = l.length := by simp [txt, PySem.Str.length]
  have e : seqIndex? (i : Int) l.length = some i := by
    unfold seqIndex?
    dsimp only
    rw [if_neg (show ¬ ((i : Int) < 0) by omega), if_pos (by simp; omega)]
    rfl
  unfold Txt.charAt
  rw [hlen, e]
  show (txt l).cps[i]? = _
  simpa [txt] using h
section
variable {prog : Program} {w : World} {A : Around} {E : Value → Shared → Prop} {s : Shared} {value slice : PySem.Expr} {x : Str} {t u : Tok} {i : Int} {c : Nat} {Q : Value → Shared → Prop}
theorem item_c (hc : Txt.charAt x i = some c) (hf : fitsSsize i = true) (h : Q (.str (txt [c]) s.toks) { s with toks := s.toks + 1 })
    (hs : subscripted slice false (.str x t) (.int i u) = operate [.str x t, .int i u] (getItem (.str x t) (.int i u)) := by with_unfolding_all rfl)
    (ht : ∀ r, letTemporaryGo value (.str x t) r = pure () := by intro _; with_unfolding_all rfl) :
    wpAny (model prog w) A (subscriptTail value slice (.str x t) (.int i u)) Q E s :=
  tail_of_ItemOn (SB.item hf (by rw [hc]; rfl) (by
    have e : Txt.item x i = txt [c] := by unfold Txt.item; rw [hc]; rfl
    rw [e]; exact h)) hs ht
/-- the text at a place of a text with a written place -/
theorem item_n {l : List Nat} (n : Nat) (hi : i = (n : Int)) (hc : l[n]? = some c) (hn : n < 1000000) (h : Q (.str (txt [c]) s.toks) { s with toks := s.toks + 1 })
    (hs : subscripted slice false (.str (txt l) t) (.int i u) = operate [.str (txt l) t, .int i u] (getItem (.str (txt l) t) (.int i u)) := by with_unfolding_all rfl)
    (ht : ∀ r, letTemporaryGo value (.str (txt l) t) r = pure () := by intro _; with_unfolding_all rfl) :
    wpAny (model prog w) A (subscriptTail value slice (.str (txt l) t) (.int i u)) Q E s := by
  subst hi
  exact item_c (char_at n hc) (fitsSsize_of (N := 1000000) (by omega) (by omega) (by omega)) h hs ht
theorem item_m1 {l : List Nat} (n : Nat) (hl : l.length = n + 1) (hc : l[n]? = some c) (h : Q (.str (txt [c]) s.toks) { s with toks := s.toks + 1 })
    (hs : subscripted slice false (.str (txt l) t) (.int (-1) u) = operate [.str (txt l) t, .int (-1) u] (getItem (.str (txt l) t) (.int (-1) u)) := by with_unfolding_all rfl)
    (ht : ∀ r, letTemporaryGo value (.str (txt l) t) r = pure () := by intro _; with_unfolding_all rfl) :
    wpAny (model prog w) A (subscriptTail value slice (.str (txt l) t) (.int (-1) u)) Q E s := by
  refine item_c ?_ (by decide) h hs ht
  have hlen : (txt l).length = l.length := by simp [txt, PySem.Str.length]
  have e : seqIndex? (-1) l.length = some n := by
    unfold seqIndex?
    dsimp only
    have e1 : (if (-1 : Int) < 0 then -1 + (l.length : Int) else -1) = (n : Int) := by rw [if_pos (by decide)]; omega
    rw [e1, if_pos (by simp; omega)]
    rfl
  unfold Txt.charAt
  rw [hlen, e]
  show (txt l).cps[n]? = _
  simpa [txt] using hc
end
theorem slice_w {l r : List Nat} {lo hi : Option Int} (a b : Nat) (ha : clipI lo 0 l.length = a) (hb : clipI hi l.length l.length = b) (hl : b ≤ l.length) (hab : a ≤ b) (e : (l.drop a).take (b - a) = r) : Txt.slice (txt l) lo hi = txt r := e ▸ slice_is a b ha hb hl hab
section
variable {prog : Program} {w : World} {A : Around} {E : Value → Shared → Prop} {s : Shared} {value slice : PySem.Expr} {t ui uj : Tok} {i j : Int} {Q : Value → Shared → Prop} {h₀ : Heap} {L : Addr} {m : Str → Option Value} {news : List (Addr × Obj)} {l : List Nat}
theorem txt_len (l : List Nat) : (txt l).length = l.length := by simp [txt, PySem.Str.length]
theorem len_t (n : Nat) (hn : l.length = n) (h1 : n < 1000000) (h : Q (.int (n : Int) (s.toks + 1)) { s with toks := s.toks + 1 + 1 }) : wpAny (model prog w) A (call (.builtin "len") [.str (txt l) t]) Q E s := by
  subst hn
  refine PyProof.Rows.len_str (by rw [txt_len]; omega) ?_
  rw [txt_len]; exact h
theorem cut_ss (r : List Nat) (a b : Nat) (hF : Fr h₀ L s.heap m) (hN : News h₀ L s.heap news) (ha : clipI (some i) 0 l.length = a) (hb : clipI (some j) l.length l.length = b) (hl : b ≤ l.length) (hab : a ≤ b) (e : (l.drop a).take (b - a) = r) (hz : l.length ≤ 1000)
    (h : ∀ h' t' k, Fr h₀ L h' m → News h₀ L h' news → Q (.str (txt r) t') { s with heap := h', toks := k })
    (hs : subscripted slice false (.str (txt l) t) (.ref s.heap.objs.size) = operate [.ref s.heap.objs.size, .str (txt l) t] (getItem (.str (txt l) t) (.ref s.heap.objs.size)) := by with_unfolding_all rfl)
    (ht : ∀ r, letTemporaryGo value (.str (txt l) t) r = pure () := by intro _; with_unfolding_all rfl) :
    wpAny (model prog w) A (subscriptTail value slice (.str (txt l) t) (.ref s.heap.objs.size)) Q E { s with heap := s.heap.push { cls := .type "slice", data := .fields #[.int i ui, .int j uj, .none] } } :=
  slice_strN_ss hF hN (fun h' t' k a' b' => by rw [slice_w a b ha hb hl hab e]; exact h h' t' k a' b') hs ht (by rw [txt_len, sizeLine_eq]; omega)
theorem cut_sn (r : List Nat) (a : Nat) (hF : Fr h₀ L s.heap m) (hN : News h₀ L s.heap news) (ha : clipI (some i) 0 l.length = a) (hab : a ≤ l.length) (e : l.drop a = r) (hz : l.length ≤ 1000)
    (h : ∀ h' t' k, Fr h₀ L h' m → News h₀ L h' news → Q (.str (txt r) t') { s with heap := h', toks := k })
    (hs : subscripted slice false (.str (txt l) t) (.ref s.heap.objs.size) = operate [.ref s.heap.objs.size, .str (txt l) t] (getItem (.str (txt l) t) (.ref s.heap.objs.size)) := by with_unfolding_all rfl)
    (ht : ∀ r, letTemporaryGo value (.str (txt l) t) r = pure () := by intro _; with_unfolding_all rfl) :
    wpAny (model prog w) A (subscriptTail value slice (.str (txt l) t) (.ref s.heap.objs.size)) Q E { s with heap := s.heap.push { cls := .type "slice", data := .fields #[.int i ui, .none, .none] } } :=
  slice_strN_sn hF hN (fun h' t' k a' b' => by rw [slice_w (r := r) a l.length ha rfl (Nat.le_refl _) hab (by rw [← e, List.take_of_length_le (by simp)])]; exact h h' t' k a' b') hs ht (by rw [txt_len, sizeLine_eq]; omega)
theorem cut_ns (r : List Nat) (b : Nat) (hF : Fr h₀ L s.heap m) (hN : News h₀ L s.heap news) (hb : clipI (some j) l.length l.length = b) (hl : b ≤ l.length) (e : l.take b = r) (hz : l.length ≤ 1000)
    (h : ∀ h' t' k, Fr h₀ L h' m → News h₀ L h' news → Q (.str (txt r) t') { s with heap := h', toks := k })
    (hs : subscripted slice false (.str (txt l) t) (.ref s.heap.objs.size) = operate [.ref s.heap.objs.size, .str (txt l) t] (getItem (.str (txt l) t) (.ref s.heap.objs.size)) := by with_unfolding_all rfl)
    (ht : ∀ r, letTemporaryGo value (.str (txt l) t) r = pure () := by intro _; with_unfolding_all rfl) :
    wpAny (model prog w) A (subscriptTail value slice (.str (txt l) t) (.ref s.heap.objs.size)) Q E { s with heap := s.heap.push { cls := .type "slice", data := .fields #[.none, .int j uj, .none] } } :=
  slice_strN_ns hF hN (fun h' t' k a' b' => by rw [slice_w (r := r) 0 b rfl hb hl (Nat.zero_le _) (by simpa using e)]; exact h h' t' k a' b') hs ht (by rw [txt_len, sizeLine_eq]; omega)
end
end Mine

end

section
open PySem PySem.W PyProof.Rows PySem.Calls
namespace Mine
/-- what stands in a pattern from an item on -/
theorem text_split {its : List Item} {k : Nat} (h : k < its.length) (tail : List Nat) : ∃ it rest, its[k]? = some it ∧ it ∈ its ∧
    (its.map Item.text).flatten ++ tail = ((its.take k).map Item.text).flatten ++ (it.text ++ rest) ∧ its.take (k + 1) = its.take k ++ [it] := by
  refine ⟨its[k], ((its.drop (k + 1)).map Item.text).flatten ++ tail, List.getElem?_eq_getElem h, List.getElem_mem h, ?_, ?_⟩
  · have e : its = its.take k ++ its[k] :: its.drop (k + 1) := by rw [List.getElem_cons_drop, List.take_append_drop]
    conv => lhs; rw [e]
    simp only [List.map_append, List.map_cons, List.flatten_append, List.flatten_cons, List.append_assoc]
  · rw [List.take_succ_eq_append_getElem h]
theorem text_len (it : Item) (ok : it.ok) : it.text.length ≤ 7 := by
  cases it with
  | lit c => simp [Item.text]
  | any => simp [Item.text]
  | set neg l h mo =>
    obtain ⟨_, _, hm⟩ := ok
    cases neg <;> rcases hm with rfl | ⟨c, rfl, _⟩ <;> simp [Item.text]
theorem texts_len : ∀ its : List Item, (∀ it ∈ its, it.ok) → (its.map Item.text).flatten.length ≤ 7 * its.length
  | [], _ => by simp
  | it :: r, h => by
    have h1 := text_len it (h it (.head _))
    have h2 := texts_len r fun y hy => h y (.tail _ hy)
    simp only [List.map_cons, List.flatten_cons, List.length_append, List.length_cons]
    omega
theorem at_pre {pre r : List Nat} (n : Nat) : (pre ++ r)[pre.length + n]? = r[n]? := by rw [List.getElem?_append_right (by omega)]; congr 1; omega
theorem pos_cases {its : List Item} {st : Bool} {P : List Nat} (hP : (its.map Item.text).flatten ++ (if st = true then [42] else []) = P) {k : Nat} (hk : k ≤ its.length) :
    (∃ it rest, it ∈ its ∧ k < its.length ∧ P = ((its.take k).map Item.text).flatten ++ (it.text ++ rest) ∧ its.take (k + 1) = its.take k ++ [it]) ∨
    (k = its.length ∧ st = true ∧ P = ((its.take k).map Item.text).flatten ++ [42]) ∨ (k = its.length ∧ st = false ∧ P = ((its.take k).map Item.text).flatten) := by
  by_cases h : k < its.length
  · obtain ⟨it, rest, _, hm, e, e2⟩ := text_split h (if st = true then [42] else [])
    exact .inl ⟨it, rest, hm, h, hP ▸ e, e2⟩
  · have hk' : k = its.length := by omega
    subst hk'
    rw [List.take_length]
    cases st
    · exact .inr (.inr ⟨rfl, rfl, by rw [← hP]; simp⟩)
    · exact .inr (.inl ⟨rfl, rfl, by rw [← hP]; simp⟩)
theorem text_pos (it : Item) : ∃ c r, it.text = c :: r := by
  cases it with
  | lit c => exact ⟨_, _, rfl⟩
  | any => exact ⟨_, _, rfl⟩
  | set neg l h mo => cases neg <;> exact ⟨_, _, rfl⟩
theorem ne1 {a b : Nat} {x : Str} (hx : x = txt [b]) (h : a ≠ b) : ¬ (txt [a] == x) = true := by
  rw [hx, txt_beq, decide_eq_false (show ¬ [a] = [b] from fun e => h (by injection e))]; exact Bool.false_ne_true
theorem isnot_str_ref {M : Model} {A : Around} {E : Value → Shared → Prop} {s : Shared} {x : Str} {t : Tok} {S : Addr} {Q : Value → Shared → Prop} (h : Q (.bool true) s) : wpAny M A (compareOp .IsNot (.str x t) (.ref S)) Q E s := wpAny_pure h
def bang : Bool → List Nat
  | true => [33]
  | false => []
theorem mid_cut {l a B c : List Nat} {i n : Nat} (h : l = a ++ (B ++ c)) (hi : i = a.length) (hn : n = B.length) : (l.drop i).take n = B := by
  subst h; subst hi; subst hn
  rw [List.drop_left, List.take_left]
theorem lit_s : Str.ofString "*" = txt [42] := by decide
theorem lit_q : Str.ofString "?" = txt [63] := by decide
theorem lit_b : Str.ofString "!" = txt [33] := by decide
theorem lit_h : Str.ofString "^" = txt [94] := by decide
end Mine

end

open PySem PySem.W PyProof.Rows PySem.Calls
local macro_rules | `(tactic| walk_at "nm") => `(tactic| first
  | (refine' Mine.nmL ?nF ?nV ?nL ?nX ?nK ?nD ?nQ; (case nX => rfl); (case nK => rfl); (case nD => rfl); (case nL => rfl); (case nF => assumption); (case nV => first | assumption | with_unfolding_all rfl))
  | (refine' Mine.nmC ?nF ?nO ?nV ?nC ?nX ?nK ?nD ?nQ; (case nX => rfl); (case nK => rfl); (case nD => rfl); (case nC => rfl); (case nF => assumption); (case nO => assumption); (case nV => assumption))
  | (refine' Mine.nmF ?nF ?nO ?nV ?nC ?nX ?nK ?nD ?nN ?nQ; (case nX => rfl); (case nK => rfl); (case nD => rfl); (case nN => rfl); (case nC => rfl); (case nF => assumption); (case nO => assumption); (case nV => assumption))
  | (refine' nameX_C ?nN ?nC ?nM ?nD ?nQ ?nK ?nX; (case nX => rfl); (case nK => rfl); (case nN => assumption); (case nC => rfl); (case nM => k_mem); (case nD => assumption))
  | (refine' Mine.nmK ?nF ?nX ?nT ?nE ?nI ?nG ?nK ?nD ?nQ; (case nI => rfl); (case nG => rfl); (case nK => rfl); (case nD => rfl); (case nF => assumption); (case nX => assumption); (case nT => assumption); (case nE => k_is))
  | (refine' Mine.nmB ?nF ?nX ?nT ?nE ?nV ?nN ?nI ?nG ?nB ?nK ?nD ?nQ; (case nI => rfl); (case nG => rfl); (case nB => rfl); (case nK => rfl); (case nD => rfl); (case nF => assumption); (case nX => assumption); (case nT => assumption); (case nE => k_is); (case nV => boot_fast); (case nN => decide)))
local macro_rules | `(tactic| walk_at "w") => `(tactic| first
  | (k_closed; k_dflt (first | refine ite_pos (by decide) ?_ | refine ite_neg (by decide) ?_))
  | (k_unfold; (try dsimp only))
  | ((with_reducible show wpAny _ _ (eval (Expr.Name _ _) _) _ _ _); walk_at "nm")
  | ((with_reducible show wpAny _ _ (subscriptTail _ _ (Value.str (Mine.txt _) _) (Value.int _ _)) _ _ _); (first | (refine' Mine.item_n 0 ?ih ?ic ?iw ?_; (case ih => rfl); (case ic => rfl); (case iw => decide)) | (refine' Mine.item_n 1 ?ih ?ic ?iw ?_; (case ih => rfl); (case ic => rfl); (case iw => decide)) | (refine' Mine.item_n 2 ?ih ?ic ?iw ?_; (case ih => rfl); (case ic => rfl); (case iw => decide)) | (refine' Mine.item_n 3 ?ih ?ic ?iw ?_; (case ih => rfl); (case ic => rfl); (case iw => decide)) | (refine' Mine.item_n 4 ?ih ?ic ?iw ?_; (case ih => rfl); (case ic => rfl); (case iw => decide))))
  | ((fail_if_success (with_reducible (first | show ite _ _ _ | show Exists _ | show wpAny _ _ (eval (Expr.ListComp _ _ _ _) _) _ _ _ | show wpAny _ _ (eval (Expr.GeneratorExp _ _ _ _) _) _ _ _ | show wpAny _ _ (subscriptTail _ _ (Value.str (Mine.txt _) _) _) _ _ _ | show wpAny _ _ (PySem.truthy (Value.ref _)) _ _ _ | show wpAny _ _ (subscriptTail _ _ (Value.ref _) (Value.int _ _)) _ _ _ | show wpAny _ _ (call (Value.builtin "len") [Value.str (Mine.txt _) _]) _ _ _))); walk1)
  | ((fail_if_success (with_reducible show ite _ _ _)); dsimp only; (fail_if_success (with_reducible (first | show ite _ _ _ | show Exists _ | show wpAny _ _ (eval (Expr.ListComp _ _ _ _) _) _ _ _ | show wpAny _ _ (eval (Expr.GeneratorExp _ _ _ _) _) _ _ _ | show wpAny _ _ (subscriptTail _ _ (Value.str (Mine.txt _) _) _) _ _ _ | show wpAny _ _ (PySem.truthy (Value.ref _)) _ _ _ | show wpAny _ _ (subscriptTail _ _ (Value.ref _) (Value.int _ _)) _ _ _ | show wpAny _ _ (call (Value.builtin "len") [Value.str (Mine.txt _) _]) _ _ _))); walk1))

section
open PySem PySem.W PyProof.Rows PySem.Calls
open Builtin.Re
namespace Mine
theorem slot_resub : Slot "re.Pattern" "sub" "re.Pattern.sub" :=
  .of (owner := "re.Pattern") (n := "sub") (by rw [typeLookup_type, builtinLookup_eq_fast]; kernel_rfl) (by decide +kernel) (by decide +kernel) (by decide +kernel)
    (by first | exact .inl (by decide +kernel) | exact .inr (by decide +kernel)) (by rw [isSubtype_type]; kernel_rfl)
theorem entry_resub : entryFor table "re.Pattern.sub" = some Builtin.«re.Pattern.sub» := entryFor_of_tree (by kernel_rfl)
theorem entry_resubloop : entryFor table "re.Pattern.sub.loop" = some Builtin.«re.Pattern.sub.loop» := entryFor_of_tree (by kernel_rfl)
theorem type_resub : typeOf (.builtin "re.Pattern.sub") = pure (.type "method_descriptor") := by show builtinType _ = _; rw [builtinType_eq_fast]; kernel_rfl
theorem plainAttrs_re : PlainAttrs "re.Pattern" :=
  ⟨⟨"object.__getattribute__", by rw [typeLookup_type, builtinLookup_eq_fast]; kernel_rfl, by decide +kernel⟩, by rw [typeLookup_type, builtinLookup_eq_fast]; kernel_rfl⟩
theorem args_resub (a b c : Value) : argsOk "re.Pattern.sub" ⟨[a, b, c], []⟩ := by unfold argsOk; kernel_rfl
theorem named_sub (f x : Value) : reNamed "re.Pattern.sub" "sub" ["repl", "string", "count"] 2 [f, x] [] = pure [some f, some x, none] := by kernel_rfl
theorem fun_call : typeLookup (.type "function") "__call__" = pure (some (.builtin "function.__call__")) := by rw [typeLookup_type, builtinLookup_eq_fast]; kernel_rfl
def pat63 : Obj := { cls := .type "re.Pattern", data := .fields #[.str (Str.ofString "([&~|])") 326, .int 32 361, .int 1 0, .none, .none, .ref 62, .int 0 0] }
def codes62 : Array Value := #[.int 14 0, .int 14 0, .int 4 0, .int 1 0, .int 1 0, .int 9 0, .int 0 0, .int 64 0, .int 0 0, .int 1342177280 0, .int 0 0, .int 0 0, .int 0 0, .int 0 0, .int 0 0, .int 17 0, .int 0 0, .int 13 0,
          .int 11 0, .int 9 0, .int 0 0, .int 64 0, .int 0 0, .int 1342177280 0, .int 0 0, .int 0 0, .int 0 0, .int 0 0, .int 0 0, .int 17 0, .int 1 0, .int 1 0]
def obj62 : Obj := { cls := .type "tuple", data := .seq codes62 }
section
variable {prog : Program} {w : World} {A : Around} {E : Value → Shared → Prop} {s : Shared} {f : Addr} {fo : Obj} {x : List Nat} {t : Tok} {Q : Value → Shared → Prop}
def goal63 : Array Nat := #[14,14,4,1,1,9,0,64,0,1342177280,0,0,0,0,0,17,0,13,11,9,0,64,0,1342177280,0,0,0,0,0,17,1,1]
theorem whole_target {A : Around} {Q : ReTarget → Shared → Prop} (hp : s.heap.get? 63 = some pat63) (h62 : s.heap.get? 62 = some obj62)
    (h : Q { pattern := .ref 63, string := .str (txt x) t, code := goal63, text := (txt x).cps, kind := 0, groups := 1, pos := 0, lim := (txt x).cps.size } s) : wpAny (model prog w) A (reWholeTarget (.ref 63) (.str (txt x) t)) Q E s := by
  obtain ⟨hh, g, d, tk, os⟩ := s
  unfold reWholeTarget
  refine wpAny_bind (wpAny_fieldsOf hp rfl ?_)
  refine wpAny_bind ?_
  unfold reTextOf
  repeat (any_goals (first | assumption | wp_step))
  rw [show Array.map (fun x : Int => x.toNat) (Array.map reRawOf ((some codes62).getD #[])) = goal63 from by decide +kernel]
  exact h
theorem str_no_ba : isSubtype (.type "str") (.type "bytearray") = pure false := by rw [isSubtype_type]; kernel_rfl
theorem sub_start (hp : s.heap.get? 63 = some pat63) (h62 : s.heap.get? 62 = some obj62) (hf : s.heap.get? f = some fo) (hc : fo.cls = .type "function")
    (h : codeAny (model prog w) A (.builtin "re.Pattern.sub.loop" ⟨[.ref 63, .str (txt x) t, .ref f, rawInt 1, rawInt 0, rawInt 0, rawInt 0, rawInt 0, .bool false, .ref s.heap.objs.size, .bool false], []⟩)
      (fun r s' => match r with | .ok (.ret v) => Q v s' | .ok _ => False | .error e => E e s') { s with heap := s.heap.push (listOf #[] 0) }) :
    wpAny (model prog w) A (call (.builtin "re.Pattern.sub") [.ref 63, .ref f, .str (txt x) t]) Q E s := by
  have hT : s.TypeIs (.ref 63) "re.Pattern" := ⟨_, hp, rfl⟩
  have hF : s.TypeIs (.ref f) "function" := ⟨_, hf, hc⟩
  refine wpAny_call (codeAny_call_builtin slot_resub.plain entry_resub (slot_resub.check _ _ _ _ _ _ _ _ hT (args_resub _ _ _) ?_))
  unfold Builtin.«re.Pattern.sub» reSubstitute
  dsimp only
  rw [named_sub]
  have f1 := fun_call
  have f2 := str_no_ba
  obtain ⟨hh, g, d, tk, os⟩ := s
  repeat (any_goals (first | assumption | wp_step))
  exact ⟨Code.quiet_builtin _ (by decide +kernel), h⟩
theorem sub_loop {D : Addr} {R : Result → Shared → Prop} (hp : s.heap.get? 63 = some pat63) (h62 : s.heap.get? 62 = some obj62) (hD : s.heap.get? D = some (listOf #[] 0))
    (hm : ∀ (A : Around) (E : Value → Shared → Prop) (Q : Option Sre.M → Shared → Prop), Q none s → wpAny (model prog w) A (reNextFound { pattern := .ref 63, string := .str (txt x) t, code := goal63, text := (txt x).cps, kind := 0, groups := 1, pos := 0, lim := (txt x).cps.size } 0 false) Q E s) (hz : x.length ≤ 1000)
    (h : ∀ h' t' k, (∀ b o, b ≠ D → s.heap.get? b = some o → h'.get? b = some o) → R (.ok (.ret (.str (txt x) t'))) { s with heap := h', toks := k }) :
    codeAny (model prog w) A (.builtin "re.Pattern.sub.loop" ⟨[.ref 63, .str (txt x) t, .ref f, rawInt 1, rawInt 0, rawInt 0, rawInt 0, rawInt 0, .bool false, .ref D, .bool false], []⟩) R s := by
  refine codeAny_builtin entry_resubloop ?_
  unfold Builtin.«re.Pattern.sub.loop»
  show wpAny _ _ (reWholeTarget (.ref 63) (.str (txt x) t) >>= _) _ _ _
  refine wpAny_bind (whole_target hp h62 ?_)
  dsimp only
  rw [if_neg (by decide)]
  simp only [rawInt]
  rw [if_neg (by decide)]
  refine wpAny_bind (hm _ _ _ ?_)
  dsimp only
  by_cases hx : x = []
  · subst hx
    rw [if_neg (by decide)]
    obtain ⟨hh, g, d, tk, os⟩ := s
    repeat (any_goals (first | assumption | wp_step))
    exact h hh _ _ (fun _ _ _ e => e)
  · rw [if_pos (by cases x with | nil => exact absurd rfl hx | cons a b => simp [txt])]
    refine wpAny_bind ?_
    show wpAny _ _ (mkStr ⟨(txt x).cps.extract 0 (txt x).cps.size⟩) _ _ _
    rw [show (⟨(txt x).cps.extract 0 (txt x).cps.size⟩ : Str) = txt x from by simp [txt]]
    refine wpAny_mkStr ?_ (by rw [txt_len, sizeLine_eq]; omega)
    refine wpAny_bind (wpAny_updateSeq hD rfl ?_)
    have e1 : (s.heap.update D (Obj.mapSeq fun y => y.push (.str (txt x) s.toks))).get? D = some (listOf #[.str (txt x) s.toks] 1) := by
      rw [Heap.get?_update_self _ hD (by rw [Obj.mapSeq_push_plain]; rfl), Obj.mapSeq_push_plain]; rfl
    have e2 := Heap.SameBut.update s.heap D (Obj.mapSeq fun y => y.push (.str (txt x) s.toks))
    refine wpAny_bind ?_
    show wpAny _ _ (mkStr ⟨(txt x).cps.extract 0 0⟩) _ _ _
    rw [show (⟨(txt x).cps.extract 0 0⟩ : Str) = txt [] from by simp [txt]]
    refine wpAny_mkStr ?_ (by rw [sizeLine_eq]; decide)
    refine wpAny_bind (wpAny_seqItems e1 rfl ?_)
    rw [if_neg (by simp)]
    refine wpAny_bind ?_
    show wpAny _ _ (call (.builtin "str.join") [.str (txt []) _, .ref D]) _ _ _
    refine join_listC (ys := [txt x]) ⟨_, e1, rfl, _, rfl⟩ (.cons _ _ .nil) (by decide) (by simp [txt_len]; omega) fun t' k => ?_
    rw [if_neg (by decide)]
    exact wpAny_pure (h _ t' k fun b o hb e => e2.extBut b o hb e)
theorem skip_rules {M : Model} {A : Around} {E : Value → Shared → Prop} {s : Shared} {Q : PUnit → Shared → Prop} (seen : Sre.Seen) (h : Q ⟨⟩ s) : ∀ l : List Nat, wpAny M A (forIn l PUnit.unit fun i __s =>
          if seen.has i = true then do
            rule (Sre.names.getD i "")
            pure (ForInStep.yield PUnit.unit)
          else pure (ForInStep.yield PUnit.unit)) Q E s
  | [] => wpAny_pure h
  | i :: l => by
    rw [List.forIn_cons]
    refine wpAny_bind ?_
    split
    · exact wpAny_bind (wpAny_rule (wpAny_pure (skip_rules seen h l)))
    · exact wpAny_pure (skip_rules seen h l)
theorem failed {M : Model} {A : Around} {E : Value → Shared → Prop} {s : Shared} {Q : Option Sre.M → Shared → Prop} (m : Sre.M) (h1 : m.answer = some false) (h2 : m.frames = []) (h3 : m.outcome = none) (h : Q none s) : wpAny M A (reRunToEnd m) Q E s := by
  unfold reRunToEnd
  have e : reDrive (2 ^ 64) m = pure { m with outcome := some .failed } := by
    show reDrive (18446744073709551615 + 1) m = _
    unfold reDrive
    have e1 : m.step = { m with outcome := some .failed } := by
      unfold Sre.M.step
      rw [h3, h1, h2]
      rfl
    have e2 : m.runFor reTurnSteps = { m with outcome := some .failed } := by
      unfold reTurnSteps
      simp only [Sre.M.runFor, h3, e1]
      rfl
    rw [e2]
    rfl
  rw [e]
  refine wpAny_bind (wpAny_pure (wpAny_bind (skip_rules _ ?_ _)))
  exact wpAny_pure h
theorem in_set (c : Nat) (h : c < 128 ∧ c ≠ 38 ∧ c ≠ 124 ∧ c ≠ 126) (seen : Sre.Seen) : ∃ seen', Sre.inSet goal63 c goal63.size 5 true seen = .ok (false, seen') := by
  obtain ⟨h1, h2, h3, h4⟩ := h
  have hb : (c < 256 && (goal63.getD (5 + (1 + c / 32)) 0).testBit (c % 32)) = false := by
    have : ∀ c : Fin 128, c.val ≠ 38 → c.val ≠ 124 → c.val ≠ 126 → (c.val < 256 && (goal63.getD (5 + (1 + c.val / 32)) 0).testBit (c.val % 32)) = false := by decide +kernel
    exact this ⟨c, h1⟩ h2 h3 h4
  show ∃ seen', Sre.inSet goal63 c (30 + 1 + 1) 5 true seen = .ok (false, seen')
  unfold Sre.inSet
  show ∃ seen', (if (c < 256 && (goal63.getD (5 + (1 + c / 32)) 0).testBit (c % 32)) = true then _ else _) = _
  rw [hb, if_neg (by decide)]
  exact ⟨_, rfl⟩
theorem none_admitted (m : Sre.M) (hc : m.code = goal63) (ht : ∀ c ∈ m.text.toList, c < 128 ∧ c ≠ 38 ∧ c ≠ 124 ∧ c ≠ 126) : ∀ fuel s seen, ∃ seen', Sre.M.admitted m fuel s seen = .ok (none, seen') := by
  intro fuel
  induction fuel with
  | zero => intro s seen; exact ⟨seen, rfl⟩
  | succ n ih =>
    intro s seen
    unfold Sre.M.admitted
    split
    · exact ⟨_, rfl⟩
    · have hg : m.text.getD s 0 < 128 ∧ m.text.getD s 0 ≠ 38 ∧ m.text.getD s 0 ≠ 124 ∧ m.text.getD s 0 ≠ 126 := by
        by_cases q : s < m.text.size
        · have : m.text.getD s 0 ∈ m.text.toList := by
            rw [Array.getD_eq_getD_getElem?, Array.getElem?_eq_getElem q]
            simp
          exact ht _ this
        · rw [Array.getD_eq_getD_getElem?, Array.getElem?_eq_none (by omega)]
          simp
      obtain ⟨seen', e⟩ := in_set _ hg seen
      rw [hc, e]
      exact ih _ _
theorem attempt_none {M : Model} {A : Around} {E : Value → Shared → Prop} {s : Shared} {Q : Option Sre.M → Shared → Prop} (m : Sre.M) (hc : m.code = goal63) (ht : ∀ c ∈ m.text.toList, c < 128 ∧ c ≠ 38 ∧ c ≠ 124 ∧ c ≠ 126) (h2 : m.frames = []) (h3 : m.outcome = none) (h : Q none s) (p : Nat) (b : Bool) :
    wpAny M A (reRunToEnd (m.attemptFrom p b)) Q E s := by
  unfold Sre.M.attemptFrom
  have hf : m.hasFirstSet = true := by unfold Sre.M.hasFirstSet; rw [hc]; decide
  rw [hf, if_neg (by decide)]
  obtain ⟨seen', e⟩ := none_admitted m hc ht (m.lim + 1 - p) p m.seen
  rw [e]
  exact failed _ rfl h2 h3 h
theorem no_match {M : Model} {A : Around} {E : Value → Shared → Prop} {s : Shared} {Q : Option Sre.M → Shared → Prop} (hx : ∀ c ∈ x, c < 128 ∧ c ≠ 38 ∧ c ≠ 124 ∧ c ≠ 126) (h : Q none s) :
    wpAny M A (reNextFound { pattern := .ref 63, string := .str (txt x) t, code := goal63, text := (txt x).cps, kind := 0, groups := 1, pos := 0, lim := (txt x).cps.size } 0 false) Q E s := by
  unfold reNextFound Sre.forSearch
  dsimp only
  split
  · exact failed _ rfl rfl rfl h
  · exact attempt_none _ rfl (show ∀ c ∈ (txt x).cps.toList, c < 128 ∧ c ≠ 38 ∧ c ≠ 124 ∧ c ≠ 126 from by simpa [txt] using hx) rfl rfl h _ _
/-- the pattern's sub on a text in which nothing is found -/
theorem re_sub (hp : s.heap.get? 63 = some pat63) (h62 : s.heap.get? 62 = some obj62) (hf : s.heap.get? f = some fo) (hc : fo.cls = .type "function") (hx : ∀ c ∈ x, c < 128 ∧ c ≠ 38 ∧ c ≠ 124 ∧ c ≠ 126) (hz : x.length ≤ 1000)
    (h : ∀ h' t' k, (∀ b o, s.heap.get? b = some o → h'.get? b = some o) → Q (.str (txt x) t') { s with heap := h', toks := k }) :
    wpAny (model prog w) A (call (.builtin "re.Pattern.sub") [.ref 63, .ref f, .str (txt x) t]) Q E s := by
  refine sub_start hp h62 hf hc (sub_loop (Heap.get?_push_of_some _ hp) (Heap.get?_push_of_some _ h62) (Heap.get?_push_size _ rfl) (fun _ _ _ hq => no_match hx hq) hz fun h' t' k hk => ?_)
  exact h h' t' k fun b o e => hk b o (Nat.ne_of_lt (Heap.lt_size e)) (Heap.get?_push_of_some _ e)
end
end Mine

end

section
open PySem PySem.W PyProof.Rows PySem.Calls
namespace Mine
def D65 : List (Int × PyData) := [(40, .str ⟨#[92, 40]⟩), (41, .str ⟨#[92, 41]⟩), (91, .str ⟨#[92, 91]⟩), (93, .str ⟨#[92, 93]⟩), (123, .str ⟨#[92, 123]⟩), (125, .str ⟨#[92, 125]⟩), (63, .str ⟨#[92, 63]⟩), (42, .str ⟨#[92, 42]⟩), (43, .str ⟨#[92, 43]⟩), (45, .str ⟨#[92, 45]⟩), (124, .str ⟨#[92, 124]⟩), (94, .str ⟨#[92, 94]⟩), (36, .str ⟨#[92, 36]⟩), (92, .str ⟨#[92, 92]⟩), (46, .str ⟨#[92, 46]⟩), (38, .str ⟨#[92, 38]⟩), (126, .str ⟨#[92, 126]⟩), (35, .str ⟨#[92, 35]⟩), (32, .str ⟨#[92, 32]⟩), (9, .str ⟨#[92, 9]⟩), (10, .str ⟨#[92, 10]⟩), (13, .str ⟨#[92, 13]⟩), (11, .str ⟨#[92, 11]⟩), (12, .str ⟨#[92, 12]⟩)]
theorem keyed65 {w : World} {g : Heap} (X : (hd.heap_1 w.params).In g) : KTD.Keyed g 65 D65 := KTD.keyed_of_look (get := fun a => (hd.heap_1 w.params).lookup a) (fun a o e => X a o e) (by kernel_rfl)
theorem not_special {c : Nat} (h : IsLetter c) : KTD.datumAt (c : Int) D65 = none := by
  obtain ⟨h1, h2⟩ := h
  have : c = 97 ∨ c = 98 ∨ c = 99 ∨ c = 100 := by omega
  rcases this with h | h | h | h <;> subst h <;> decide +kernel
theorem key_lookup : isSubtype (.type "KeyError") (.type "LookupError") = pure true := by rw [isSubtype_type]; kernel_rfl
section
variable {prog : Program} {w : World} {A : Around} {E : Value → Shared → Prop} {s : Shared} {c : Nat} {t : Tok} {Q : Value → Shared → Prop}
theorem look_keep {A : Around} {Q : Builtin.Str.Mapped → Shared → Prop} (K : KTD.Keyed s.heap 65 D65) (hh : A.handled = none) (hc : IsLetter c)
    (h : ∀ h' k, (∀ b o, s.heap.get? b = some o → h'.get? b = some o) → Q .keep { s with heap := h', toks := k }) : wpAny (model prog w) A (Builtin.Str.tableLookup (.ref 65) c) Q E s := by
  unfold Builtin.Str.tableLookup
  refine wpAny_bind (wpAny_attempt (wpAny_bind (wpAny_mkInt ?_)))
  obtain ⟨lo, kvs, hd, hf⟩ := K prog w
  have hn : PySem.Spec.lookup (PyData.int (c : Int)) (D65.map fun p => (PyData.int p.1, p.2)) = none := by rw [KTD.lookup_keyed]; exact not_special hc
  refine wpAny_getItem_missing_of (intKind_is prog w (c : Int) _) lo hh hd.mapOf (hf.none_of_lookup PyProof.V.same_int hn) fun h' e hx => ?_
  obtain ⟨ob, tt, he, hcl, hdt⟩ := hx.there
  dsimp only
  refine wpAny_bind (wpAny_isInstance (T := "KeyError") ⟨ob, he, hcl⟩ key_lookup ?_)
  rw [if_pos rfl]
  exact wpAny_bind (wpAny_rule (wpAny_pure (h h' _ hx.keeps)))
theorem translate_c (K : KTD.Keyed s.heap 65 D65) (hh : A.handled = none) (hc : IsLetter c)
    (h : ∀ h' t' k, (∀ b o, s.heap.get? b = some o → h'.get? b = some o) → Q (.str (txt [c]) t') { s with heap := h', toks := k }) :
    wpAny (model prog w) A (call (.builtin "str.translate") [.str (txt [c]) t, .ref 65]) Q E s := by
  refine wpAny_call (codeAny_call_builtin PySem.F.slot_str_translate.plain PySem.F.entry_str_translate (PySem.F.slot_str_translate.check _ _ _ _ _ _ _ _ (typeIs_str _ _ _) (PySem.F.args_str_translate_2 _ _) ?_))
  unfold Builtin.«str.translate»
  refine wpAny_bind (wpAny_of_eq (a := (Value.str (txt [c]) t, txt [c], Value.ref 65)) rfl ?_)
  dsimp only
  rw [if_neg (show ¬ ((txt [c]).length == 0) = true from by rw [txt_len, List.length_singleton]; decide)]
  refine wpAny_bind ?_
  have hall : ((txt [c]).cps.all fun x => decide (x < 128)) = true := by
    obtain ⟨h1, h2⟩ := hc
    simp [txt]; omega
  rw [hall, ← Array.forIn_toList]
  show wpAny _ _ (forIn [c] _ _) _ _ _
  rw [List.forIn_cons]
  refine wpAny_bind ?_
  dsimp only
  rw [if_neg (by decide), if_pos rfl]
  dsimp only [List.lookup]
  refine wpAny_bind (look_keep (A := A.in1) K hh hc fun h' k hk => ?_)
  dsimp only
  refine wpAny_pure ?_
  dsimp only
  refine wpAny_pure ?_
  dsimp only
  rw [if_neg (by decide)]
  show wpAny _ _ (mkStr (txt [c]) >>= fun v => ret v) _ _ _
  exact wpAny_bind (wpAny_mkStr (wpAny_pure (h _ _ _ hk)) (by rw [txt_len, sizeLine_eq, List.length_singleton]; decide))
end
end Mine

end

theorem Mine.quiet_Es : True := by
  w_top off
  trivial

section
open PySem PySem.W PyProof.Rows PySem.Calls
namespace Mine
set_option maxRecDepth 100000 in
set_option maxHeartbeats 0 in
theorem escape_c (w : World) (A : Around) (s : Shared) (G : Gnd w s.heap) (hd : A.depth + 2 < recursionLimit) (hh : A.handled = none) (c : Nat) (hc : IsLetter c) (t : Tok) :
   wpAny (model PR w) A (call (.ref 75) [.str (txt [c]) t]) (fun v s' => Done s s' (∃ t', v = .str (txt [c]) t')) (fun _ _ => False) s := by
  obtain ⟨hdl, dp, fr, gds, un⟩ := A
  dsimp only at hh hd
  subst hh
  refine enterP G (ho := rfl) (hcd := rfl) (by show dp < _; omega) (bindsK G (fun _ => rfl)) (locs rfl) rfl rfl rfl (by decide) ?_
  intro L h₁ F N
  obtain ⟨p, loose, mean, mg, mb, T⟩ := G.t
  have X := G.x
  have hrow : PySem.Challenge.rw_in0020_01 = PySem.Challenge.rw_in0020_01 := rfl
  revert hrow X
  k_fill
  intro X hrow
  dsimp only
  iterate 19 (walk_at "w")
  refine getMethod_builtin (typeIs_str _ _ _) PySem.F.plainAttrs_str PySem.F.slot_str_translate PySem.F.type_str_translate (fun a e => nomatch e) ?_
  iterate 4 (walk_at "w")
  refine translate_c ((keyed65 X).keep F.keep) rfl hc fun h' t' k hk => ?_
  have F₁ := F.keeps hk
  exact Done.mk ⟨_, _, rfl, F₁.keep⟩ ⟨_, rfl⟩
end Mine

end

section
open PySem PySem.W PyProof.Rows PySem.Calls
open Builtin Builtin.Str PySem.StrLaws
namespace Mine
theorem occ_full (s sub : Str) (hi limit : Nat) : ∀ (l : List Nat) (st : Array Nat × Nat), limit ≤ st.fst.size → (forIn l st (occBody s sub hi limit)).run = st
  | [], st, _ => rfl
  | a :: l, st, h => by
    rw [List.forIn_cons]
    unfold occBody
    rw [if_neg (by omega)]
    exact occ_full s sub hi limit l st h
/-- found at once -/
theorem occ_here {s sub : Str} {lo hi : Nat} (h1 : lo + sub.length ≤ hi) (h2 : subAt s sub lo = true) : occurrences s sub lo hi 1 = [lo] := by
  rw [occ_eq]
  obtain ⟨n, hn⟩ : ∃ n, hi + 1 - lo = n + 1 := ⟨hi - lo, by omega⟩
  rw [hn, List.range'_succ, List.forIn_cons]
  unfold occBody
  rw [if_pos ⟨⟨⟨by simp, Nat.le_refl _⟩, h1⟩, h2⟩]
  show (forIn (List.range' (lo + 1) n 1) (#[lo], lo + sub.length) (occBody s sub hi 1)).run.fst.toList = [lo]
  rw [occ_full _ _ _ _ _ _ (by simp)]
/-- no room for it -/
theorem occ_empty {s sub : Str} {lo hi : Nat} (h1 : 1 ≤ sub.length) (h : hi ≤ lo) : occurrences s sub lo hi 1 = [] := by
  rw [occ_eq]
  have := (occ_none s sub hi (List.range' lo (hi + 1 - lo)) lo (fun i hi' => by rw [List.mem_range'_1] at hi'; omega)).mpr (fun i hi' => by rw [List.mem_range'_1] at hi'; omega)
  rw [this]
theorem sub_at {l : List Nat} {i c : Nat} (h : l[i]? = some c) : subAt (txt l) (txt [c]) i = true := by
  have hi : i < l.length := (List.getElem?_eq_some_iff.mp h).1
  unfold subAt
  rw [txt_len, List.length_singleton]
  have : (txt l).cps.extract i (i + 1) = (txt [c]).cps := by
    apply Array.toList_inj.mp
    simp only [txt, List.extract_toArray, List.extract_eq_drop_take]
    rw [Nat.add_sub_cancel_left]
    rw [List.drop_eq_getElem_cons hi, List.take_succ_cons, List.take_zero]
    rw [List.getElem?_eq_getElem hi] at h
    rw [Option.some.inj h]
  rw [this]; simp
theorem args_find4 (a b c d : Value) : argsOk "str.find" ⟨[a, b, c, d], []⟩ := by
  unfold argsOk; rw [signature?_of (id := "str.find") (n := ['d', 'n', 'i', 'f']) (o := ['r', 't', 's']) (by kernel_rfl) PySem.F.owner_str]; kernel_rfl
theorem from_nat (n k : Nat) : fromIndex n (k : Int) = k := by unfold fromIndex; rw [if_neg (by omega)]; omega
section
variable {prog : Program} {w : World} {A : Around} {E : Value → Shared → Prop} {s : Shared} {x y : Str} {t u v v2 : Tok} {Q : Value → Shared → Prop}
theorem gives_find4 (i j : Int) : Gives (Builtin.«str.find» ⟨[.str x t, .str y u, .int i v, .int j v2], []⟩) (.int (match occurrences x y (fromIndex x.length i) (min (fromIndex x.length j) x.length) 1 with | k :: _ => (k : Int) | [] => -1)) := by
  show Gives (match occurrences x y (fromIndex x.length i) (min (fromIndex x.length j) x.length) 1 with | k :: _ => retInt k | [] => (do rule "str.find.not-found"; retInt (-1))) _
  cases occurrences x y (fromIndex x.length i) (min (fromIndex x.length j) x.length) 1 with
  | nil => exact .rule (.of_eq rfl)
  | cons k _ => exact .of_eq rfl
theorem find4 {l : List Nat} {k j : Nat} {c : Nat} {ik : Int} (hki : ik = (k : Int)) (hy : y = txt [c]) (hj : j ≤ l.length) (r : Int) (hr : (match occurrences (txt l) (txt [c]) k j 1 with | k :: _ => (k : Int) | [] => -1) = r)
    (hq : Q (.int r s.toks) { s with toks := s.toks + 1 }) : wpAny (model prog w) A (call (.builtin "str.find") [.str (txt l) t, .str y u, .int ik v, .int (j : Int) v2]) Q E s := by
  subst hy
  subst hki
  refine call_gives PySem.F.slot_str_find (typeIs_str _ _ _) PySem.F.entry_str_find (args_find4 _ _ _ _) (gives_find4 _ _) ?_
  rw [from_nat, from_nat, txt_len, Nat.min_eq_left hj, hr]
  exact hq
theorem has_dash (l : List Nat) (h : 45 ∈ l) : (!!(occurrences (txt l) (Str.ofString "-") 0 (txt l).length 1).isEmpty) = false := by
  have := found_one (txt l) 45
  rw [show Str.ofString "-" = (⟨#[45]⟩ : Str) from by decide, this]
  simp [txt, h]
end
end Mine

end

section
open PySem PySem.W PyProof.Rows PySem.Calls
namespace Mine
section
variable {M : Model} {A : Around} {E : Value → Shared → Prop} {s : Shared}
/-- the code of a generator expression, found or made -/
theorem gx_code {env : Env} {c P : Addr} {ps : Array Value} {pos : Pos} {qual : Str} {scope : Scope} {Q : Value → Shared → Prop} (hc : env.code = .ref c) (C : CodeHd s.heap c P) (hP : s.heap.get? P = some (tabObj ps)) (ht : TriplesOk ps.toList)
    (hQ : ∀ cv h' tk ps', Heap.ExtBut P s.heap h' → h'.get? P = some (tabObj ps') → TriplesOk ps'.toList → s.heap.objs.size ≤ h'.objs.size → Q cv { s with heap := h', toks := tk }) :
    wpAny M A (genexprCode env pos qual scope) Q E s := by
  cases hf : codeAmong pos ps.toList with
  | some cv => exact wpAny_genexprCode_hit hc (C.code hP ht) hf (hQ cv s.heap s.toks ps (fun _ _ _ e => e) hP ht (Nat.le_refl _))
  | none =>
    refine wpAny_genexprCodeX hc (C.code hP ht) (C.tab hP) hf fun c' h' tk hx h1 h2 _ _ hT _ => ?_
    exact hQ _ _ _ _ hx hT.2 (by rw [Array.toList_append]; exact TriplesOk_snoc _ _ _ _ ht) (Nat.le_of_lt (Nat.lt_of_le_of_lt h1 h2))
end
end Mine

end

section
open PySem PySem.W PyProof.Rows PySem.Calls
open Builtin Builtin.Str PySem.StrLaws
namespace Mine
theorem occ_gone {l : List Nat} {c lim : Nat} (h : c ∉ l) : (occurrences (txt l) (txt [c]) 0 (txt l).length lim).isEmpty = true := by
  cases e : occurrences (txt l) (txt [c]) 0 (txt l).length lim with
  | nil => rfl
  | cons i r =>
    obtain ⟨h1, h2⟩ := occ_spec (txt l) (txt [c]) 0 (txt l).length lim i (by rw [e]; exact .head _)
    rw [txt_len, txt_len, List.length_singleton] at h1
    unfold subAt at h2
    rw [txt_len, List.length_singleton] at h2
    have hl : i < l.length := by omega
    have : (txt l).cps.extract i (i + 1) = #[l[i]] := by
      apply Array.toList_inj.mp
      simp only [txt, List.extract_toArray, List.extract_eq_take_drop]
      rw [Nat.add_sub_cancel_left, List.drop_eq_getElem_cons hl, List.take_succ_cons, List.take_zero]
    rw [this] at h2
    have : l[i] = c := by simpa [txt] using h2
    exact absurd (this ▸ List.getElem_mem hl) h
section
variable {prog : Program} {w : World} {A : Around} {E : Value → Shared → Prop} {s : Shared} {y z : Str} {t u v : Tok} {Q : Value → Shared → Prop} {l : List Nat} {c : Nat}
theorem replace_none (hy : y = txt [c]) (h : c ∉ l) (hq : Q (.str (txt l) t) s) : wpAny (model prog w) A (call (.builtin "str.replace") [.str (txt l) t, .str y u, .str z v]) Q E s := by
  subst hy
  have he := occ_gone (l := l) (c := c) (lim := (txt l).length + 1) h
  refine call_gives PySem.F.slot_str_replace (typeIs_str _ _ _) PySem.F.entry_str_replace (PySem.F.args_str_replace_3 _ _ _) (gives_str_replace _ _ z t u v fun hx => by rw [he] at hx; simp at hx) ?_
  rw [he]
  exact hq
end
/-- the frame and the ledger when one object alone changed -/
theorem fr_ext {g h h' : Heap} {L P : Addr} {m : Str → Option Value} (F : Fr g L h m) (hx : Heap.ExtBut P h h') (hL : P ≠ L) (hg : g.get? P = none) : Fr g L h' m :=
  ⟨F.ns.extBut hx (Ne.symm hL), fun b o e => hx b o (fun q => by rw [q, hg] at e; cases e) (F.keep b o e), F.above⟩
theorem news_ext {g h h' : Heap} {L P : Addr} {o o' : Obj} {pre : List (Addr × Obj)} (N : News g L h (pre ++ [(P, o)])) (hx : Heap.ExtBut P h h') (hP : h'.get? P = some o') (hne : ∀ p ∈ pre, p.1 ≠ P) : News g L h' (pre ++ [(P, o')]) := fun p hp => by
  rcases List.mem_append.mp hp with hp | hp
  · have n := N p (List.mem_append_left _ hp)
    exact ⟨hx _ _ (hne p hp) n.1, n.2⟩
  · rw [List.mem_singleton.mp hp]
    exact ⟨hP, (N (P, o) (List.mem_append_right _ (.head _))).2⟩
theorem strs_at {ys : List Value} {ss : List Str} (h : StrsAre ys ss) : ∀ {i : Nat} {v : Value}, ys[i]? = some v → ∃ t, v = .str (ss.getD i Str.empty) t := by
  induction h with
  | nil => intro i v e; cases e
  | cons x t _ ih =>
    intro i v e
    cases i with
    | zero => cases e; exact ⟨t, rfl⟩
    | succ i => obtain ⟨u, hu⟩ := ih (i := i) (v := v) (by simpa using e); exact ⟨u, by simpa using hu⟩
theorem map_at {α : Type} {f : α → Str} {l : List α} {i : Nat} (h : i < (l.map f).length) : ∃ c, (l.map f).getD i Str.empty = f c ∧ c ∈ l := by
  rw [List.length_map] at h
  refine ⟨l[i], ?_, List.getElem_mem h⟩
  simp [List.getD, h]
end Mine

end

section
open PySem PySem.W PyProof.Rows PySem.Calls
namespace Mine
theorem passing_all (n : Nat) : ∀ k i, n - i = k → i ≤ n → passing (fun _ => true) n i = List.range' i k
  | 0, i, h, hi => by
    have : i = n := by omega
    subst this
    exact passing_end _ _
  | k + 1, i, h, hi => by
    rw [passing_true (by omega) rfl, passing_all n k (i + 1) (by omega) (by omega), List.range'_succ]
theorem lt_map {lt : List (Str × Tok)} {ss : List Str} {n : Nat} (hn : ss.length = n)
    (h : ItemsOf (fun j y => ∃ i, (passing (fun _ => true) n 0)[j]? = some i ∧ ∃ t, y = .str (ss.getD i Str.empty) t) (strValues lt).toArray (passing (fun _ => true) n 0).length) : lt.map (·.1) = ss := by
  rw [passing_all n n 0 (by omega) (Nat.zero_le _)] at h
  obtain ⟨h1, h2⟩ := h
  have hl : lt.length = n := by simpa [strValues] using h1
  refine List.ext_getElem (by simp [hl, hn]) fun j hj hj' => ?_
  rw [List.length_map] at hj
  obtain ⟨i, hi, t, e⟩ := h2 j (.str lt[j].1 lt[j].2) (by simp [strValues, List.getElem?_eq_getElem hj])
  have hij : i = j := by
    rw [List.getElem?_range'] at hi
    · have := Option.some.inj hi; omega
    · omega
  subst hij
  injection e with e _
  simp [List.getElem_map, e, List.getD, hj']
theorem join_cs (neg : Bool) (l hh : Nat) (mo : List Nat) : Txt.join (Str.ofString "-") ((if l ≤ hh then [bang neg ++ [l], hh :: mo] else [bang neg ++ mo]).map txt) = txt (bang neg ++ left l hh mo) := by
  unfold Txt.join
  rw [StrLaws.glued_eq_join]
  by_cases q : l ≤ hh
  · rw [if_pos q, left, if_pos q]
    show txt (bang neg ++ [l]) ++ Str.ofString "-" ++ txt (hh :: mo) = _
    rw [lit_d, txt_app, txt_app]
    simp
  · rw [if_neg q, left, if_neg q]
    rfl
theorem join_ok (neg : Bool) (l hh : Nat) {mo : List Nat} (h : mo.length ≤ 1) : JoinOk (Str.ofString "-") ((if l ≤ hh then [bang neg ++ [l], hh :: mo] else [bang neg ++ mo]).map txt) = true := by
  have hd : (Str.ofString "-").length = 1 := by decide
  have hb : (bang neg).length ≤ 1 := by cases neg <;> decide
  unfold JoinOk Builtin.Str.tooLong
  rw [sizeLine_eq, Bool.not_eq_true', decide_eq_false_iff_not]
  split
  · simp [txt_len, hd]; omega
  · simp [txt_len, hd]; omega
end Mine

end

section
open PySem PySem.W PyProof.Rows PySem.Calls
namespace Mine
theorem among_app {pos : Pos} {a b : Int} {c cv : Value} (l : List Value) (ht : TriplesOk l) (h : codeAmong pos (l ++ [rawInt a, rawInt b, c]) = some cv) : codeAmong pos l = some cv ∨ cv = c := by
  fun_induction TriplesOk l with
  | case1 =>
    simp only [List.nil_append, codeAmong, rawInt] at h
    split at h
    · right; injection h with h; exact h.symm
    · cases h
  | case2 a' t b' u x rest ih =>
    simp only [List.cons_append, codeAmong] at h ⊢
    split at h
    · rename_i hc; left; rw [if_pos hc]; exact h
    · rename_i hc; rw [if_neg hc]; exact ih ht h
  | case3 l h1 h2 => exact ht.elim
section
variable {M : Model} {A : Around} {E : Value → Shared → Prop} {s : Shared} {name qual : Str} {params : Arguments} {body : Expr} {scope : Scope} {env : Env} {c P : Addr} {ps : Array Value} {pos : Pos} {firstLine : Nat} {mg mb : Str → Option Value}
  {clos : List (Str × Addr)} {Q : Value → Shared → Prop} {p : Program} {loose : List Str} {mean : ExcName → Option Value}
/-- a lambda, its code found or made -/
theorem lam_made (hcl : closureFor scope env = pure clos) (hge0 : env.globals = mainGlobals) (T : Top p loose mean mg mb s.heap) (hcode : env.code = .ref c) (C : CodeHd s.heap c P) (hP : s.heap.get? P = some (tabObj ps)) (ht : TriplesOk ps.toList)
    (h : ∀ f cv ctv h' tk ps', Heap.ExtBut P s.heap h' → h'.get? f = some { cls := .type "function", data := .func (kla_fn name qual params body scope clos ((mg "__name__").getD .none) cv ctv) } → s.heap.objs.size ≤ f →
      h'.get? P = some (tabObj ps') → TriplesOk ps'.toList →
      ((ps' = ps ∧ codeAmong pos ps.toList = some cv) ∨ (ps' = ps ++ #[rawInt pos.line, rawInt pos.col, cv] ∧ h'.CodeRec cv qual)) → Q (.ref f) { s with heap := h', toks := tk }) :
    wpAny M A (makeFunction name qual params (.expr body) scope env [] [] [] pos firstLine) Q E s := by
  obtain ⟨bm, ob, b1, b2, b3, b4, b5, b6⟩ := T.bmain
  have hgP : mainGlobals ≠ P := fun q => by
    obtain ⟨o, es, ep, e, hd, _⟩ := T.g
    rw [q, hP] at e; cases e; cases hd
  have hbP : bm ≠ P := fun q => by
    rw [q, hP] at b3; cases b3; cases b4
  have hbG : bm ≠ mainGlobals := fun q => by
    obtain ⟨o, es, ep, e, hd, _⟩ := T.g
    rw [q, e] at b3; cases b3; rw [hd] at b6; cases b6
  have hPl := Heap.lt_size hP
  cases hf : codeAmong pos ps.toList with
  | some cv =>
    refine kla_makeFunctionHit (mg := mg) hcl hge0 T.g hcode C hP ht hf ⟨bm, ob, b1, b2, hbG, hbP, b3, b4, b5, b6⟩ fun ctv h' tk hk hsz => ?_
    exact h _ cv ctv _ tk ps (fun b o _ e => Heap.get?_push_of_some _ (hk b o e)) (Heap.get?_push_size _ rfl) hsz (Heap.get?_push_of_some _ (hk _ _ hP)) ht (.inl ⟨rfl, hf⟩)
  | none =>
    refine kla_makeFunction (mg := mg) hcl hge0 T.g hcode C hP ht hf hgP ⟨bm, ob, b1, b2, hbG, hbP, b3, b4, b5, b6⟩ fun c' ctv h' tk hx hge hlt hrec htb => ?_
    exact h _ (.ref c') ctv _ tk _ (fun b o hb e => Heap.get?_push_of_some _ (hx b o hb e)) (Heap.get?_push_size _ rfl) (by omega) (Heap.get?_push_of_some _ htb) (by rw [Array.toList_append]; exact TriplesOk_snoc _ _ _ _ ht) (.inr ⟨rfl, hrec.push _⟩)
end
end Mine
namespace Mine
theorem left_clean {neg : Bool} {l hh : Nat} {mo : List Nat} (h1 : 97 ≤ l) (h2 : l ≤ 100) (h3 : 97 ≤ hh) (h4 : hh ≤ 100) (hm : mo = [] ∨ ∃ c, mo = [c] ∧ IsLetter c) : ∀ c ∈ bang neg ++ left l hh mo, c < 128 ∧ c ≠ 38 ∧ c ≠ 124 ∧ c ≠ 126 := by
  have fin : ∀ c, c = 33 ∨ c = 45 ∨ (97 ≤ c ∧ c ≤ 100) → c < 128 ∧ c ≠ 38 ∧ c ≠ 124 ∧ c ≠ 126 := by intro c h; omega
  intro c hc
  refine fin c ?_
  have hmo : ∀ c ∈ mo, 97 ≤ c ∧ c ≤ 100 := by
    rcases hm with rfl | ⟨mc, rfl, h⟩
    · exact fun _ h => nomatch h
    · intro c hc; rw [List.mem_singleton.mp hc]; exact h
  rcases List.mem_append.mp hc with hc | hc
  · cases neg with
    | true => exact .inl (List.mem_singleton.mp hc)
    | false => cases hc
  · unfold left at hc
    split at hc
    · rcases List.mem_cons.mp hc with rfl | hc
      · exact .inr (.inr ⟨h1, h2⟩)
      · rcases List.mem_cons.mp hc with rfl | hc
        · exact .inr (.inl rfl)
        · rcases List.mem_cons.mp hc with rfl | hc
          · exact .inr (.inr ⟨h3, h4⟩)
          · exact .inr (.inr (hmo c hc))
    · exact .inr (.inr (hmo c hc))
theorem left_len2 {neg : Bool} {l hh : Nat} {mo : List Nat} (hm : mo.length ≤ 1) : (bang neg ++ left l hh mo).length ≤ 5 := by
  unfold left
  cases neg <;> (split <;> simp [bang] <;> omega)
theorem set_text_len (neg : Bool) (l hh : Nat) (mo : List Nat) : (Item.set neg l hh mo).text.length = (bang neg ++ (l :: 45 :: hh :: mo)).length + 2 := by
  cases neg <;> simp [Item.text, bang]
theorem left_first {l hh : Nat} {mo : List Nat} {c : Nat} {r : List Nat} (h1 : 97 ≤ l) (h2 : l ≤ 100) (hm : mo = [] ∨ ∃ c, mo = [c] ∧ IsLetter c) (h : left l hh mo = c :: r) : 97 ≤ c ∧ c ≤ 100 := by
  unfold left at h
  split at h
  · cases h; exact ⟨h1, h2⟩
  · rcases hm with rfl | ⟨mc, rfl, hmc⟩
    · cases h
    · cases h; exact hmc
theorem part_e0 {l hh : Nat} {mo : List Nat} (h : left l hh mo = []) : (Item.set false l hh mo).part = [40, 63, 33, 41] := by rw [Item.part, if_pos h]
theorem part_e1 {l hh : Nat} {mo : List Nat} (h : left l hh mo = []) : (Item.set true l hh mo).part = [46] := by rw [Item.part, if_pos h]
theorem part_c0 {l hh c : Nat} {mo r : List Nat} (h : left l hh mo = c :: r) : (Item.set false l hh mo).part = 91 :: (c :: r ++ [93]) := by rw [Item.part, if_neg (by rw [h]; exact fun e => nomatch e), h]
theorem part_c1 {l hh c : Nat} {mo r : List Nat} (h : left l hh mo = c :: r) : (Item.set true l hh mo).part = 91 :: 94 :: (c :: r ++ [93]) := by rw [Item.part, if_neg (by rw [h]; exact fun e => nomatch e), h]
end Mine
namespace Mine
theorem fjoin (b : List Nat) : Str.empty ++ Str.ofString "[" ++ txt b ++ Str.ofString "]" = txt (91 :: (b ++ [93])) := by
  have e0 : Str.empty = txt [] := by decide
  rw [e0, lit_o, lit_c, txt_app, txt_app, txt_app]
  rfl
end Mine

end

theorem Mine.quiet_L1 : True := by
  w_top off
  trivial

section
open PySem PySem.W PyProof.Rows PySem.Calls
namespace Mine

set_option maxRecDepth 100000 in
set_option maxHeartbeats 0 in
theorem law_name (w : World) (A : Around) (s : Shared) (G : Gnd w s.heap) (hd : A.depth + 2 < recursionLimit) (hh : A.handled = none) (x : Int) (t : Tok) :
   wpAny (model PR w) A (call (.ref 87) [.int x t]) (fun v s' => Done s s' (∃ y t', v = .str y t' ∧ IsName y)) (fun _ _ => False) s := by
  refine enterC (g := s.heap) G (fun _ _ e => e) (Nat.le_refl _) (ho := rfl) (hcd := rfl) (by omega) (bindsK G (fun _ => rfl)) rfl (by decide) rfl rfl rfl ?_
  intro L h₁ tk cells hL F N Y hk₁
  obtain ⟨o, rfl, ho⟩ := CellsAre.one Y
  obtain ⟨p, loose, mean, mg, mb, T⟩ := G.t
  have X := G.x
  have hrow : PySem.Challenge.rw_in0020_01 = PySem.Challenge.rw_in0020_01 := rfl
  revert hrow X
  k_fill
  intro X hrow
  clear Y hk₁
  replace ho : o.data = .cell (some (.int x t)) := ho
  iterate 7 (walk_at "w")
  refine listComp (cl := [(Str.ofString "x", L + 1)]) rfl (by decide) rfl (by decide) ?_
  iterate 10 (walk_at "w")
  rename Fr _ L _ _ => F
  rename News _ L _ _ => N
  rename IsRange _ _ _ _ _ _ _ _ => R
  dsimp only at R N F ⊢
  obtain ⟨n, hn, hn6⟩ := fmod_ex x 6 (by decide)
  rw [show x.fmod 6 = (n : Int) from hn] at R
  refine ⟨n, _, fun i ys tl => tl = [] ∧ ∃ ss : List Str, StrsAre ys ss ∧ ss.length = i ∧ ∀ y ∈ ss, ∃ c, y = ⟨#[c]⟩ ∧ IsLetter c, Src.range (by exact hh) R (by omega), by rw [sizeLine_eq]; omega, ⟨rfl, [], .nil, rfl, fun _ h => nomatch h⟩, turns_name rfl rfl ?_, ?_⟩
  · rintro g s₀ C i v h₂ tk₂ m bs ys tl hg ⟨h₀, rfl⟩ hC hi ⟨tv, rfl⟩ ⟨rfl, ss, hss, hlen, hP⟩ hD F₂ N₂
    refine tests_nil ?_
    rw [if_pos rfl]
    have Xg := X.keeps fun b o e => hg b o (F.keep b o e)
    have Tg := T.keeps fun b o e => hg b o (F.keep b o e)
    have hc := hg _ _ (N.get (.head _))
    clear F N X T
    dsimp only
    iterate 11 (walk_at "w")
    refine' pow_int_small ?p1 ?p2 ?p3 ?p4
    case p1 => omega
    case p2 => omega
    case p3 => decide
    obtain ⟨d, hd4⟩ : ∃ d : Int, (4 : Int) ^ (i : Int).toNat = d := ⟨_, rfl⟩
    have hd1 : 0 < d := hd4 ▸ Int.pow_pos (by decide)
    have hd2 : d < 2000 := by
      rw [← hd4]
      have : i = 0 ∨ i = 1 ∨ i = 2 ∨ i = 3 ∨ i = 4 := by omega
      rcases this with h | h | h | h | h <;> rw [h] <;> decide
    rw [hd4]
    refine floordiv_int (by omega) ?_ (.inl (PyProof.noPylong_small (by omega)))
    obtain ⟨q, hq, hq4⟩ := fmod_ex ((x.fdiv 6).fdiv d) 4 (by decide)
    iterate 3 (walk_at "w")
    rw [show ((x.fdiv 6).fdiv d).fmod 4 = (q : Int) from hq]
    refine After.none F₂ N₂ ⟨rfl, ss ++ [_], hss.append' (by first | exact .cons .nil | exact .cons _ _ .nil | exact .cons _ .nil), by simp [hlen], fun y hy => ?_⟩
    rcases List.mem_append.mp hy with hy | hy
    · exact hP y hy
    · rw [List.mem_singleton.mp hy]
      have : q = 0 ∨ q = 1 ∨ q = 2 ∨ q = 3 := by omega
      rcases this with h | h | h | h <;> rw [h]
      · exact ⟨97, by decide, by decide, by decide⟩
      · exact ⟨98, by decide, by decide, by decide⟩
      · exact ⟨99, by decide, by decide, by decide⟩
      · exact ⟨100, by decide, by decide, by decide⟩
  · rintro D h₂ tk₂ ys tl k ⟨rfl, ss, hss, hlen, hP⟩ hD hk₂ eD -
    have F₂ := F.keeps hk₂
    have hl₂ : h₂.IsList D ys.toArray := ⟨_, eD, rfl, _, rfl⟩
    walk_at "w"
    refine join_listC hl₂ (ys := ss) (by simpa using hss) (by decide) (by rw [sum_ones hP]; omega) fun t' k' => ?_
    obtain ⟨e1, e2⟩ := letters_join hP
    exact Done.mk ⟨_, _, rfl, F₂.keep⟩ ⟨_, t', rfl, by omega, e2⟩
end Mine

end

theorem Mine.quiet_L2 : True := by
  w_top off
  trivial

section
open PySem PySem.W PyProof.Rows PySem.Calls
namespace Mine
inductive It_1 (s : Shared) (L : Addr) (o1 : Obj) (o2 : Obj) (kd : Nat) (x : Int) (t : Tok) (q1 : Nat) (q2 : Nat) (s' : Shared) : Prop
  | mk (h : Heap) (tk : Nat) (m : Str → Option Value) (ol : Obj) (oh : Obj) (t1 : Tok) (t2 : Tok) (t3 : Tok) (p1 : s' = { s with heap := h, toks := tk }) (p2 : Fr s.heap L h m) (p3 : m (Str.ofString "kind") = some (.int kd t1)) (p4 : m (Str.ofString "x") = some (.int x t)) (p5 : News s.heap L h [(L + 1 + 1 + 1 + 1, o1), (L + 1 + 1 + 1, o2), (L + 1 + 1, oh), (L + 1, ol)]) (p6 : oh.data = .cell (some (.str ⟨#[97 + q2]⟩ t2))) (p7 : ol.data = .cell (some (.str ⟨#[97 + q1]⟩ t3)))
inductive It_2 (s : Shared) (L : Addr) (o1 : Obj) (oh : Obj) (ol : Obj) (q3 : Nat) (m : Str → Option Value) (s' : Shared) : Prop
  | mk (h : Heap) (tk : Nat) (om : Obj) (mo : List Nat) (t4 : Tok) (p1 : s' = { s with heap := h, toks := tk }) (p2 : Fr s.heap L h m) (p3 : News s.heap L h [(L + 1 + 1 + 1 + 1, o1), (L + 1 + 1 + 1, om), (L + 1 + 1, oh), (L + 1, ol)]) (p4 : om.data = .cell (some (.str ⟨List.toArray mo⟩ t4))) (p5 : (mo = [] ∨ mo = [97 + q3]))
inductive It_3 (s : Shared) (L : Addr) (om : Obj) (oh : Obj) (ol : Obj) (q1 : Nat) (q2 : Nat) (mo : List Nat) (m : Str → Option Value) (s' : Shared) : Prop
  | mk (h : Heap) (tk : Nat) (om' : Obj) (D : Addr) (ys : List Value) (n : Nat) (p1 : s' = { s with heap := h, toks := tk }) (p2 : Fr s.heap L h m) (p3 : om'.data = .cell (some (.ref D))) (p4 : News s.heap L h [(L + 1 + 1 + 1 + 1, om'), (D, listOf (List.toArray ys) n), (L + 1 + 1 + 1, om), (L + 1 + 1, oh), (L + 1, ol)]) (p5 : StrsAre ys (letters (Item.set false (97 + q1) (97 + q2) mo).has 4))
inductive It_4 (s : Shared) (L : Addr) (om : Obj) (oh : Obj) (ol : Obj) (om' : Obj) (D : Addr) (kd : Nat) (q1 : Nat) (q2 : Nat) (mo : List Nat) (ys : List Value) (n : Nat) (s' : Shared) : Prop
  | mk (h : Heap) (tk : Nat) (m2 : Str → Option Value) (t1 : Tok) (t2 : Tok) (p1 : s' = { s with heap := h, toks := tk }) (p2 : Fr s.heap L h m2) (p3 : m2 (Str.ofString "kind") = some (.int kd t1)) (p4 : m2 (Str.ofString "left") = some (.str (txt (left (97 + q1) (97 + q2) mo)) t2)) (p5 : News s.heap L h [(L + 1 + 1 + 1 + 1, om'), (D, listOf (List.toArray ys) n), (L + 1 + 1 + 1, om), (L + 1 + 1, oh), (L + 1, ol)])
set_option maxRecDepth 100000 in
set_option maxHeartbeats 0 in
theorem law_item (w : World) (A : Around) (s : Shared) (G : Gnd w s.heap) (hd : A.depth + 2 < recursionLimit) (hh : A.handled = none) (x : Int) (t : Tok) :
   wpAny (model PR w) A (call (.ref 92) [.int x t]) (fun v s' => Done s s' (∃ tl it, ItemAt tl it v ∧ ∀ p ∈ tl, s'.heap.get? p.1 = some p.2 ∧ s.heap.get? p.1 = none)) (fun _ _ => False) s := by
  obtain ⟨hdl, dp, fr, gds, un⟩ := A
  dsimp only at hh hd
  subst hh
  refine enterC (g := s.heap) G (fun _ _ e => e) (Nat.le_refl _) (ho := rfl) (hcd := rfl) (by show dp < _; omega) (bindsK G (fun _ => rfl)) rfl (by decide) rfl rfl rfl ?_
  intro L h₁ tk cells hL F N Y hk₁
  obtain ⟨p, loose, mean, mg, mb, T⟩ := G.t
  have X := G.x
  have hrow : PySem.Challenge.rw_in0020_01 = PySem.Challenge.rw_in0020_01 := rfl
  revert hrow X
  k_fill
  intro X hrow
  clear hk₁
  obtain ⟨o1, o2, o3, o4, rfl, d1, d2, d3, d4⟩ := CellsAre.four Y
  clear Y
  replace d1 : o1.data = .cell none := d1
  replace d2 : o2.data = .cell none := d2
  replace d3 : o3.data = .cell none := d3
  replace d4 : o4.data = .cell none := d4
  obtain ⟨kd, hkd, hkd8⟩ := fmod_ex x 8 (by decide)
  obtain ⟨q1, hq1, hq14⟩ := fmod_ex (x.fdiv 8) 4 (by decide)
  obtain ⟨q2, hq2, hq24⟩ := fmod_ex (x.fdiv 32) 4 (by decide)
  obtain ⟨q3, hq3, hq34⟩ := fmod_ex (x.fdiv 128) 4 (by decide)
  replace hkd : x.fmod 8 = kd := hkd
  replace hq1 : (x.fdiv 8).fmod 4 = q1 := hq1
  replace hq2 : (x.fdiv 32).fmod 4 = q2 := hq2
  replace hq3 : (x.fdiv 128).fmod 4 = q3 := hq3
  refine cutK (It_1 s L o1 o2 kd x t q1 q2) (fun K hK => ?_) ?_
  · iterate 42 (walk_at "w")
    rename Fr _ L _ _ => F₁
    rename News _ L _ _ => N₁
    rename Obj.data _ = Data.cell (some (Value.str (Txt.item (Str.ofString "abcd") ((x.fdiv 8).fmod 4)) _)) => e1
    rename Obj.data _ = Data.cell (some (Value.str (Txt.item (Str.ofString "abcd") ((x.fdiv 32).fmod 4)) _)) => e2
    rw [hq1, item_abcd hq14] at e1
    rw [hq2, item_abcd hq24] at e2
    rw [hkd] at F₁
    exact hK _ ⟨_, _, _, _, _, _, _, _, rfl, F₁, rfl, rfl, fun p hp => N₁ p (.tail _ hp), e2, e1⟩
  rintro _ ⟨h, tk, m, ol, oh, t1, t2, t3, rfl, F, ek, ex, N, eh, el⟩
  refine cutK (It_2 s L o1 oh ol q3 m) (fun K hK => ?_) ?_
  · iterate 10 (walk_at "w")
    split
    · dsimp only
      iterate 11 (walk_at "w")
      rename Fr _ L _ _ => F₁
      rename News _ L _ _ => N₁
      rename Obj.data _ = Data.cell (some (Value.str (Txt.item _ _) _)) => e1
      rw [hq3, item_abcd hq34] at e1
      exact hK _ ⟨_, _, _, [97 + q3], _, rfl, F₁, N₁, e1, .inr rfl⟩
    · dsimp only
      iterate 2 (walk_at "w")
      rename Fr _ L _ _ => F₁
      rename News _ L _ _ => N₁
      rename Obj.data _ = Data.cell (some (Value.str (Str.ofString "") _)) => e1
      exact hK _ ⟨_, _, _, [], _, rfl, F₁, N₁, e1, .inl rfl⟩
  clear F N
  rintro _ ⟨h, tk, om, mo, t4, rfl, F, N, em, hmo⟩
  iterate 7 (walk_at "w")
  split
  · rename decide _ = true => hk3
    replace hk3 := of_decide_eq_true hk3
    dsimp only
    iterate 8 (walk_at "w")
    split
    · dsimp only
      iterate 9 (walk_at "w")
      rename Fr _ L _ _ => F₁
      rename News _ L _ _ => N₁
      exact Done.mk ⟨_, _, rfl, F₁.keep⟩ ⟨_, .any, item_any (.head _) (by decide) (by decide) (by decide), fun p hp => ⟨(N₁ p hp).1, (N₁ p hp).2.2⟩⟩
    · dsimp only
      iterate 9 (walk_at "w")
      rename Fr _ L _ _ => F₁
      rename News _ L _ _ => N₁
      exact Done.mk ⟨_, _, rfl, F₁.keep⟩ ⟨_, .lit (97 + q1), item_lit hq14 (.head _), fun p hp => ⟨(N₁ p hp).1, (N₁ p hp).2.2⟩⟩
  rename ¬ (decide _ = true) => hk3
  replace hk3 := of_decide_eq_false (eq_false_of_ne_true hk3)
  walk_at "w"
  refine cutK (It_3 s L om oh ol q1 q2 mo m) (fun K hK => ?_) ?_
  · walk_at "w"
    refine listComp (cl := [(Str.ofString "more", L + 1 + 1 + 1), (Str.ofString "low", L + 1), (Str.ofString "high", L + 1 + 1)]) rfl (by decide) rfl (by decide) ?_
    walk_at "w"
    refine ⟨_, _, fun i ys tl => tl = [] ∧ StrsAre ys (letters (Item.set false (97 + q1) (97 + q2) mo).has i), Src.str rfl, by rw [sizeLine_eq]; decide, ⟨rfl, .nil⟩, turns_name rfl rfl ?_, ?_⟩
    · rintro g s₀ C i v h₂ tk₂ m bs ys tl hg ⟨h₀, rfl⟩ hC hi hv ⟨rfl, hss⟩ hD F₂ N₂
      have Xg := X.keeps fun b o e => hg b o (F.keep b o e)
      have Tg := T.keeps fun b o e => hg b o (F.keep b o e)
      have g4 := hg _ _ (N.get (.tail _ (.head _)))
      have g3 := hg _ _ (N.get (.tail _ (.tail _ (.head _))))
      have g2 := hg _ _ (N.get (.tail _ (.tail _ (.tail _ (.head _)))))
      clear F N X T
      dsimp only
      have hi4 : i < 4 := hi
      obtain ⟨ts, rfl⟩ : ∃ t, v = .str ⟨#[97 + i]⟩ t := sign_abcd hi4 hv
      obtain ⟨b, hb⟩ : ∃ b, (Item.set false (97 + q1) (97 + q2) mo).has (97 + i) = b := ⟨_, rfl⟩
      have hls := letters_succ (Item.set false (97 + q1) (97 + q2) mo).has hi4
      rw [hb] at hls
      have hb' : (decide (97 + q1 ≤ 97 + i ∧ 97 + i ≤ 97 + q2) || mo.contains (97 + i)) = b := by rw [← hb]; simp [Item.has]
      have hm' : mo = [] ∨ ∃ d, mo = [d] := hmo.imp id fun e => ⟨_, e⟩
      refine tests_is b ?_ ?_
      · iterate 7 (walk_at "w")
        split
        · iterate 4 (walk_at "w")
          split
          · skip
            exact ⟨is_set1 hb' ‹_› ‹_›, rfl⟩
          · iterate 6 (walk_at "w")
            split
            · exact ⟨is_set2 hm' hb' ‹_›, rfl⟩
            · walk_at "w"
              exact ⟨is_set3 hm' hb' (.inr ‹_›) ‹_›, rfl⟩
        · iterate 7 (walk_at "w")
          split
          · exact ⟨is_set2 hm' hb' ‹_›, rfl⟩
          · walk_at "w"
            exact ⟨is_set3 hm' hb' (.inl ‹_›) ‹_›, rfl⟩
      · cases b with
        | true =>
          rw [if_pos rfl]
          walk_at "w"
          exact After.none F₂ N₂ ⟨rfl, hls ▸ hss.append' (.cons _ _ .nil)⟩
        | false =>
          rw [if_neg (by decide)]
          exact After.none F₂ N₂ ⟨rfl, by rw [hls]; simpa using hss⟩
    · rintro D h₂ tk₂ ys tl k ⟨rfl, hss⟩ hD hk₂ eD -
      have F₂ := F.keeps hk₂
      have N₂ := news_new F (N.grown hk₂) hD eD
      have l1 : L + 1 + 1 + 1 + 1 < D ∧ L + 1 + 1 + 1 < D ∧ L + 1 + 1 < D ∧ L + 1 < D := by have lw : L + 1 + 1 + 1 + 1 < h.objs.size := Heap.lt_size (N.get (.head _)); have hD' : h.objs.size ≤ D := hD; omega
      walk_at "w"
      rename Fr _ L _ _ => F₁
      rename News _ L _ _ => N₁
      rename Obj.data _ = _ => e1
      exact hK _ ⟨_, _, _, D, _, _, rfl, F₁, e1, N₁.perm (fun p hp => (List.Perm.swap _ _ _).mem_iff.mp hp), hss⟩
  clear F N
  rintro _ ⟨h, tk, om', D, ys, n, rfl, F, em', N, hys⟩
  have lmo : ({ cps := mo.toArray } : Str).length ≤ 1 := by rcases hmo with rfl | rfl <;> simp [PySem.Str.length]
  have lq1 : ({ cps := #[97 + q1] } : Str).length ≤ 1 := Nat.le_refl 1
  have lq2 : ({ cps := #[97 + q2] } : Str).length ≤ 1 := Nat.le_refl 1
  refine cutK (It_4 s L om oh ol om' D kd q1 q2 mo ys n) (fun K hK => ?_) ?_
  · iterate 8 (walk_at "w")
    split
    · rename (!decide _) = true => hle
      replace hle := not_lt_of hle
      iterate 10 (walk_at "w")
      rename Fr _ L _ _ => F₁
      rename News _ L _ _ => N₁
      have e : ({ cps := #[97 + q1] } : Str) ++ Str.ofString "-" ++ { cps := #[97 + q2] } ++ { cps := mo.toArray } = txt (left (97 + q1) (97 + q2) mo) := by
        rw [left, if_pos hle, sgl_txt, sgl_txt, arr_txt, lit_d]
        simp only [txt_app, List.cons_append, List.nil_append]
      rw [e] at F₁
      exact hK _ ⟨_, _, _, _, _, rfl, F₁, ek, rfl, N₁⟩
    · rename ¬ (!decide _) = true => hle
      replace hle := lt_of_not hle
      iterate 4 (walk_at "w")
      rename Fr _ L _ _ => F₁
      rename News _ L _ _ => N₁
      have e : Str.ofString "" ++ { cps := mo.toArray } = txt (left (97 + q1) (97 + q2) mo) := by
        rw [left, if_neg (by omega), arr_txt, lit_e]
        simp only [txt_app, List.nil_append]
      rw [e] at F₁
      exact hK _ ⟨_, _, _, _, _, rfl, F₁, ek, rfl, N₁⟩
  clear F N ek
  rintro _ ⟨h, tk, m2, t6, t7, rfl, F, ek, elf, N⟩
  have hm' : mo = [] ∨ ∃ d, mo = [d] := hmo.imp id fun e => ⟨_, e⟩
  have hlen := left_len (97 + q1) (97 + q2) hm'
  have hok : ∀ neg, (Item.set neg (97 + q1) (97 + q2) mo).ok := fun _ => ⟨⟨by omega, by omega⟩, ⟨by omega, by omega⟩, hmo.imp id fun e => ⟨_, e, by omega, by omega⟩⟩
  have etx : Str.ofString "[" ++ { cps := #[97 + q1] } ++ Str.ofString "-" ++ { cps := #[97 + q2] } ++ { cps := mo.toArray } ++ Str.ofString "]" = txt (Item.set false (97 + q1) (97 + q2) mo).text := by
    rw [sgl_txt, sgl_txt, arr_txt, lit_d, lit_o, lit_c]
    simp only [txt_app, List.cons_append, List.nil_append, Item.text]
  have etn : Str.ofString "[!" ++ { cps := #[97 + q1] } ++ Str.ofString "-" ++ { cps := #[97 + q2] } ++ { cps := mo.toArray } ++ Str.ofString "]" = txt (Item.set true (97 + q1) (97 + q2) mo).text := by
    rw [sgl_txt, sgl_txt, arr_txt, lit_d, lit_on, lit_c]
    simp only [txt_app, List.cons_append, List.nil_append, Item.text]
  iterate 7 (walk_at "w")
  split
  · iterate 22 (walk_at "w")
    refine listComp (cl := [(Str.ofString "means", L + 1 + 1 + 1 + 1)]) rfl (by decide) rfl (by decide) ?_
    walk_at "w"
    refine ⟨_, _, fun i ys tl => tl = [] ∧ StrsAre ys (letters (Item.set true (97 + q1) (97 + q2) mo).has i), Src.str rfl, by rw [sizeLine_eq]; decide, ⟨rfl, .nil⟩, turns_name rfl rfl ?_, ?_⟩
    · rintro g s₀ C i v h₂ tk₂ m bs ys tl hg ⟨h₀, rfl⟩ hC hi hv ⟨rfl, hss⟩ hD F₂ N₂
      have Xg := X.keeps fun b o e => hg b o (F.keep b o e)
      have Tg := T.keeps fun b o e => hg b o (F.keep b o e)
      have g4 := hg _ _ (N.get (.head _))
      have g3 := hg _ _ (N.get (.tail _ (.head _)))
      clear F N X T
      dsimp only
      have hi4 : i < 4 := hi
      obtain ⟨ts, rfl⟩ : ∃ t, v = .str ⟨#[97 + i]⟩ t := sign_abcd hi4 hv
      obtain ⟨b, hb⟩ : ∃ b, (Item.set true (97 + q1) (97 + q2) mo).has (97 + i) = b := ⟨_, rfl⟩
      have hls := letters_succ (Item.set true (97 + q1) (97 + q2) mo).has hi4
      rw [hb] at hls
      refine tests_is b ?_ ?_
      · iterate 3 (walk_at "w")
        refine notin_list_strs (F₂.lst ⟨_, g3, rfl, _, rfl⟩) hys ?_
        walk_at "w"
        exact ⟨by rw [any_letters _ hi4, ← hb, has_neg], rfl⟩
      · cases b with
        | true =>
          rw [if_pos rfl]
          walk_at "w"
          exact After.none F₂ N₂ ⟨rfl, hls ▸ hss.append' (.cons _ _ .nil)⟩
        | false =>
          rw [if_neg (by decide)]
          exact After.none F₂ N₂ ⟨rfl, by rw [hls]; simpa using hss⟩
    · rintro D₂ h₂ tk₂ ys₂ tl k ⟨rfl, hss⟩ hD hk₂ eD -
      have N₂ := news_new F (N.grown hk₂) hD eD
      have F₂ := F.keeps hk₂
      have lw : L + 1 + 1 + 1 + 1 < h.objs.size := Heap.lt_size (N.get (.head _))
      have lD : D < h.objs.size := Heap.lt_size (N.get (.tail _ (.head _)))
      have hD' : h.objs.size ≤ D₂ := hD
      have lw' : L + 1 + 1 + 1 + 1 < D₂ := Nat.lt_of_lt_of_le lw hD'
      have lw2 : L + 1 + 1 + 1 < D₂ := Nat.lt_trans (Nat.lt_succ_self _) lw'
      have lw3 : L + 1 + 1 < D₂ := Nat.lt_trans (Nat.lt_succ_self _) lw2
      have l2 : D < D₂ ∧ L + 1 + 1 + 1 + 1 < D₂ ∧ L + 1 + 1 + 1 < D₂ ∧ L + 1 + 1 < D₂ ∧ L + 1 < D₂ := ⟨Nat.lt_of_lt_of_le lD hD', lw', lw2, lw3, Nat.lt_trans (Nat.lt_succ_self _) lw3⟩
      clear F N
      dsimp only
      iterate 7 (walk_at "w")
      split
      · iterate 9 (walk_at "w")
        rename Fr _ L _ _ => F₁
        rename News _ L _ _ => N₁
        exact Done.mk ⟨_, _, rfl, F₁.keep⟩ ⟨_, .set true (97 + q1) (97 + q2) mo, item_set (hok _) (.head _) (.tail _ (.head _)) hss etn (by
          have := left_ne ‹_›
          rw [Item.part, if_neg this, lit_oc, lit_c]
          simp only [txt_app, List.cons_append, List.nil_append]), fun p hp => ⟨(N₁ p hp).1, (N₁ p hp).2.2⟩⟩
      · iterate 3 (walk_at "w")
        rename Fr _ L _ _ => F₁
        rename News _ L _ _ => N₁
        exact Done.mk ⟨_, _, rfl, F₁.keep⟩ ⟨_, .set true (97 + q1) (97 + q2) mo, item_set (hok _) (.head _) (.tail _ (.head _)) hss etn (by
          have := left_eq ‹_›
          rw [Item.part, if_pos this, lit_p]), fun p hp => ⟨(N₁ p hp).1, (N₁ p hp).2.2⟩⟩
  · iterate 31 (walk_at "w")
    split
    · iterate 9 (walk_at "w")
      rename Fr _ L _ _ => F₁
      rename News _ L _ _ => N₁
      exact Done.mk ⟨_, _, rfl, F₁.keep⟩ ⟨_, .set false (97 + q1) (97 + q2) mo, item_set (hok _) (.head _) (.tail _ (.tail _ (.head _))) hys etx (by
        have := left_ne ‹_›
        rw [Item.part, if_neg this, lit_o, lit_c]
        simp only [txt_app, List.cons_append, List.nil_append]), fun p hp => ⟨(N₁ p hp).1, (N₁ p hp).2.2⟩⟩
    · iterate 3 (walk_at "w")
      rename Fr _ L _ _ => F₁
      rename News _ L _ _ => N₁
      exact Done.mk ⟨_, _, rfl, F₁.keep⟩ ⟨_, .set false (97 + q1) (97 + q2) mo, item_set (hok _) (.head _) (.tail _ (.tail _ (.head _))) hys etx (by
        have := left_eq ‹_›
        rw [Item.part, if_pos this, lit_n]), fun p hp => ⟨(N₁ p hp).1, (N₁ p hp).2.2⟩⟩
end Mine

end

theorem Mine.quiet_L3 : True := by
  w_top off
  trivial

section
open PySem PySem.W PyProof.Rows PySem.Calls
namespace Mine
inductive Tk_1 (s : Shared) (L : Addr) (neg : Bool) (fc : Nat) (fr' : List Nat) (i : Nat) (t : Tok) (ts : Tok) (s' : Shared) : Prop
  | mk (h : Heap) (tk : Nat) (m : Str → Option Value) (t1 : Tok) (p1 : s' = { s with heap := h, toks := tk }) (p2 : Fr s.heap L h m) (p3 : m (Str.ofString "part") = some (.str (txt (91 :: (ng neg ++ ((fc :: fr') ++ [93])))) t)) (p4 : m (Str.ofString "sign") = some (.str ⟨#[97 + i]⟩ ts)) (p5 : m (Str.ofString "turned") = some (.bool neg)) (p6 : m (Str.ofString "inside") = some (.bool false)) (p7 : m (Str.ofString "k") = some (.int (0 : Nat) t1))
inductive Tk_2 (s : Shared) (L : Addr) (neg : Bool) (fc : Nat) (fr' : List Nat) (i : Nat) (ts : Tok) (s' : Shared) : Prop
  | mk (h : Heap) (tk : Nat) (m : Str → Option Value) (t1 : Tok) (t2 : Tok) (p1 : s' = { s with heap := h, toks := tk }) (p2 : Fr s.heap L h m) (p3 : m (Str.ofString "body") = some (.str (txt (fc :: fr')) t2)) (p4 : m (Str.ofString "sign") = some (.str ⟨#[97 + i]⟩ ts)) (p5 : m (Str.ofString "turned") = some (.bool neg)) (p6 : m (Str.ofString "inside") = some (.bool false)) (p7 : m (Str.ofString "k") = some (.int (0 : Nat) t1))
inductive Tk_3 (s : Shared) (L : Addr) (neg : Bool) (fc : Nat) (i : Nat) (ts : Tok) (s' : Shared) : Prop
  | mk (h : Heap) (tk : Nat) (m : Str → Option Value) (t1 : Tok) (t2 : Tok) (t3 : Tok) (p1 : s' = { s with heap := h, toks := tk }) (p2 : Fr s.heap L h m) (p3 : m (Str.ofString "body") = some (.str (txt [fc]) t2)) (p4 : m (Str.ofString "sign") = some (.str ⟨#[97 + i]⟩ ts)) (p5 : m (Str.ofString "turned") = some (.bool neg)) (p6 : m (Str.ofString "inside") = some (.bool (decide (fc ≤ 97 + i ∧ 97 + i ≤ fc)))) (p7 : m (Str.ofString "k") = some (.int (0 : Nat) t1)) (p8 : m (Str.ofString "wide") = some (.int (1 : Nat) t3))
inductive Tk_4 (s : Shared) (L : Addr) (neg : Bool) (fc : Nat) (q : Nat) (i : Nat) (ts : Tok) (s' : Shared) : Prop
  | mk (h : Heap) (tk : Nat) (m : Str → Option Value) (t1 : Tok) (t2 : Tok) (t3 : Tok) (p1 : s' = { s with heap := h, toks := tk }) (p2 : Fr s.heap L h m) (p3 : m (Str.ofString "body") = some (.str (txt [fc, 45, q]) t2)) (p4 : m (Str.ofString "sign") = some (.str ⟨#[97 + i]⟩ ts)) (p5 : m (Str.ofString "turned") = some (.bool neg)) (p6 : m (Str.ofString "inside") = some (.bool (decide (fc ≤ 97 + i ∧ 97 + i ≤ q)))) (p7 : m (Str.ofString "k") = some (.int (0 : Nat) t1)) (p8 : m (Str.ofString "wide") = some (.int (3 : Nat) t3))
inductive Tk_5 (s : Shared) (L : Addr) (neg : Bool) (fc : Nat) (q : Nat) (mc : Nat) (i : Nat) (ts : Tok) (s' : Shared) : Prop
  | mk (h : Heap) (tk : Nat) (m : Str → Option Value) (t1 : Tok) (t2 : Tok) (t3 : Tok) (p1 : s' = { s with heap := h, toks := tk }) (p2 : Fr s.heap L h m) (p3 : m (Str.ofString "body") = some (.str (txt [fc, 45, q, mc]) t2)) (p4 : m (Str.ofString "sign") = some (.str ⟨#[97 + i]⟩ ts)) (p5 : m (Str.ofString "turned") = some (.bool neg)) (p6 : m (Str.ofString "inside") = some (.bool (decide (fc ≤ 97 + i ∧ 97 + i ≤ q)))) (p7 : m (Str.ofString "k") = some (.int (0 : Nat) t1)) (p8 : m (Str.ofString "wide") = some (.int (3 : Nat) t3))
inductive Tk_6 (s : Shared) (L : Addr) (neg : Bool) (fc : Nat) (q : Nat) (mc : Nat) (i : Nat) (ts : Tok) (s' : Shared) : Prop
  | mk (h : Heap) (tk : Nat) (m : Str → Option Value) (t1 : Tok) (t2 : Tok) (t3 : Tok) (p1 : s' = { s with heap := h, toks := tk }) (p2 : Fr s.heap L h m) (p3 : m (Str.ofString "body") = some (.str (txt [fc, 45, q, mc]) t2)) (p4 : m (Str.ofString "sign") = some (.str ⟨#[97 + i]⟩ ts)) (p5 : m (Str.ofString "turned") = some (.bool neg)) (p6 : m (Str.ofString "inside") = some (.bool (decide (fc ≤ 97 + i ∧ 97 + i ≤ q) || 97 + i == mc))) (p7 : m (Str.ofString "k") = some (.int (3 : Nat) t1)) (p8 : m (Str.ofString "wide") = some (.int (1 : Nat) t3))
set_option maxRecDepth 100000 in
set_option maxHeartbeats 0 in
theorem law_takes (w : World) (A : Around) (s : Shared) (G : Gnd w s.heap) (hd : A.depth + 2 < recursionLimit) (hh : A.handled = none) (it : Item) (t : Tok) (i : Nat) (hi : i < 4) (ts : Tok) (hok : it.ok) :
   wpAny (model PR w) A (call (.ref 99) [.str (txt it.part) t, .str ⟨#[97 + i]⟩ ts]) (fun v s' => Done s s' (v = .bool (it.has (97 + i)))) (fun _ _ => False) s := by
  obtain ⟨hdl, dp, fr, gds, un⟩ := A
  dsimp only at hh hd
  subst hh
  refine enterP G (ho := rfl) (hcd := rfl) (by show dp < _; omega) (bindsK G (fun _ => rfl)) (locs rfl) rfl rfl rfl (by decide) ?_
  intro L h₁ F N
  obtain ⟨p, loose, mean, mg, mb, T⟩ := G.t
  have X := G.x
  have hrow : PySem.Challenge.rw_in0020_01 = PySem.Challenge.rw_in0020_01 := rfl
  revert hrow X
  k_fill
  intro X hrow
  dsimp only
  have e46 : Str.ofString "." = txt [46] := lit_p
  rcases part_cases it hok (97 + i) with ⟨ep, eh⟩ | ⟨ep, eh⟩ | ⟨c, hc, ep, eh⟩ | ⟨neg, body, P, hb, ep, eh⟩
  · rw [eh]; clear eh; rw [ep] at F
    iterate 13 (walk_at "w")
    rw [if_pos (by rw [lit_p]; simp)]
    iterate 7 (walk_at "w")
    exact Done.mk ⟨_, _, rfl, (by assumption : Fr _ _ _ _).keep⟩ (by decide)
  · rw [eh]; clear eh; rw [ep] at F
    iterate 13 (walk_at "w")
    rw [if_pos (by rw [lit_n]; simp)]
    iterate 7 (walk_at "w")
    exact Done.mk ⟨_, _, rfl, (by assumption : Fr _ _ _ _).keep⟩ (by decide)
  · rw [eh]; clear eh; rw [ep] at F
    obtain ⟨hc1, hc2⟩ := hc
    iterate 13 (walk_at "w")
    rw [if_neg (not_two (fun e => by cases e; omega) (fun e => by cases e))]
    iterate 12 (walk_at "w")
    rw [if_pos (by rw [lit_o, txt_bne, decide_eq_false (show ¬ ([c] = [91]) from fun e => by injection e; omega)]; rfl)]
    iterate 7 (walk_at "w")
    exact Done.mk ⟨_, _, rfl, (by assumption : Fr _ _ _ _).keep⟩ (by
      show Value.bool _ = _
      congr 1
      rw [sgl_txt, txt_beq, Bool.eq_iff_iff]
      simp only [decide_eq_true_eq, List.cons.injEq, and_true, beq_iff_eq]
      exact eq_comm)
  · rw [eh]; clear eh; rw [ep] at F
    obtain ⟨fc, fr', rfl, hfc⟩ := hb.first
    obtain ⟨f1, f2⟩ := hfc
    iterate 13 (walk_at "w")
    rw [if_neg (not_two (fun e => by cases e) (fun e => by cases e))]
    iterate 2 (walk_at "w")
    iterate 13 (walk_at "w")
    rename Fr _ L _ _ => F₁
    have eF : ∃ m, Fr s.heap L _ m ∧ m (Str.ofString "part") = some (.str (txt (91 :: (ng neg ++ ((fc :: fr') ++ [93])))) t) ∧ m (Str.ofString "sign") = some (.str ⟨#[97 + i]⟩ ts) := ⟨_, F₁, rfl, rfl⟩
    obtain ⟨m, F, en, es⟩ := eF
    clear F₁
    refine cutK (Tk_1 s L neg fc fr' i t ts) (fun K hK => ?_) ?_
    · iterate 7 (walk_at "w")
      cases neg with
      | false =>
        refine' item_n 1 ?h1 ?h2 ?h3 ?_
        case h1 => rfl
        case h2 => rfl
        case h3 => decide
        iterate 19 (walk_at "w")
        rename Fr _ L _ _ => F₁
        have e94 : (txt [fc] == Str.ofString "^") = false := by rw [show Str.ofString "^" = txt [94] from by decide, txt_beq, decide_eq_false (by intro e; injection e; omega)]
        rw [e94] at F₁
        exact hK _ ⟨_, _, _, _, rfl, F₁, en, es, rfl, rfl, rfl⟩
      | true =>
        refine' item_n 1 ?h1 ?h2 ?h3 ?_
        case h1 => rfl
        case h2 => rfl
        case h3 => decide
        iterate 19 (walk_at "w")
        rename Fr _ L _ _ => F₁
        have e94 : (txt [94] == Str.ofString "^") = true := by decide
        rw [e94] at F₁
        exact hK _ ⟨_, _, _, _, rfl, F₁, en, es, rfl, rfl, rfl⟩
    clear F en es
    rintro _ ⟨h, tk, m, t1, rfl, F, ep, es, et, ei, ek⟩
    refine cutK (Tk_2 s L neg fc fr' i ts) (fun K hK => ?_) ?_
    · iterate 5 (walk_at "w")
      cases neg with
      | false =>
        iterate 11 (walk_at "w")
        refine' cut_ss (fc :: fr') 1 (fr'.length + 2) ?cF ?cN ?ca ?cb ?cl ?cab ?ce ?cz ?_
        case cF => exact F
        case cN => exact News.nil
        case ca => simp [clipI]; omega
        case cb => simp [clipI, ng]; omega
        case cl => simp [ng]
        case cab => omega
        case ce => simp [ng]
        case cz => have := hb.len; simp [ng] at this ⊢; omega
        intro h' t' k F₁ _
        walk_at "w"
        rename Fr _ L _ _ => F₁
        exact hK _ ⟨_, _, _, _, _, rfl, F₁, rfl, es, et, ei, ek⟩
      | true =>
        iterate 11 (walk_at "w")
        refine' cut_ss (fc :: fr') 2 (fr'.length + 3) ?cF ?cN ?ca ?cb ?cl ?cab ?ce ?cz ?_
        case cF => exact F
        case cN => exact News.nil
        case ca => simp [clipI]; omega
        case cb => simp [clipI, ng]; omega
        case cl => simp [ng]
        case cab => omega
        case ce => simp [ng]
        case cz => have := hb.len; simp [ng] at this ⊢; omega
        intro h' t' k F₁ _
        walk_at "w"
        rename Fr _ L _ _ => F₁
        exact hK _ ⟨_, _, _, _, _, rfl, F₁, rfl, es, et, ei, ek⟩
    clear F ep es et ei ek
    rintro _ ⟨h, tk, m, t1, t2, rfl, F, eb, es, et, ei, ek⟩
    cases hb with
    | one m hm =>
      iterate 11 (walk_at "w")
      refine len_t 1 rfl (by decide) ?_
      iterate 22 (walk_at "w")
      refine' cut_ss [] 1 1 ?cF ?cN ?ca ?cb ?cl ?cab ?ce ?cz ?_
      case cF => exact F
      case cN => exact News.nil
      case ca => rfl
      case cb => rfl
      case cl => exact Nat.le_of_ble_eq_true rfl
      case cab => decide
      case ce => rfl
      case cz => exact Nat.le_of_ble_eq_true rfl
      intro h' t' k F₁ _
      clear F
      iterate 6 (walk_at "w")
      rename Fr _ L _ _ => F₂
      refine cutK (Tk_3 s L neg fc i ts) (fun K hK => ?_) ?_
      · iterate 15 (walk_at "w")
        split
        · rename (!decide _) = true => hle
          replace hle := not_lt_of hle
          iterate 13 (walk_at "w")
          refine' cut_ss [fc] 0 1 ?cF ?cN ?ca ?cb ?cl ?cab ?ce ?cz ?_
          case cF => exact F₂
          case cN => exact News.nil
          case ca => rfl
          case cb => rfl
          case cl => exact Nat.le_of_ble_eq_true rfl
          case cab => decide
          case ce => rfl
          case cz => exact Nat.le_of_ble_eq_true rfl
          intro h' t' k F₃ _
          clear F₂
          iterate 3 (walk_at "w")
          refine' item_m1 0 ?h1 ?h2 ?_
          case h1 => rfl
          case h2 => rfl
          iterate 2 (walk_at "w")
          rename Fr _ L _ _ => F₄
          exact hK _ ⟨_, _, _, _, _, _, rfl, F₄, eb, es, et, congrArg (fun b => some (Value.bool b)) ((congrArg _ (sgl_lt fc (97 + i))).trans (by by_cases q : 97 + i ≤ fc <;> simp [q, hle] <;> omega)), ek, rfl⟩
        · rename ¬ (!decide _) = true => hle
          have hle' := lt_of_not hle
          walk_at "w"
          rename Fr _ L _ _ => F₃
          exact hK _ ⟨_, _, _, _, _, _, rfl, F₃, eb, es, et, congrArg (fun b => some (Value.bool b)) ((eq_false_of_ne_true hle).trans (decide_eq_false (show ¬ (fc ≤ 97 + i ∧ 97 + i ≤ fc) by omega)).symm), ek, rfl⟩
      clear F₂
      rintro _ ⟨h, tk, m, t1, t2, t3, rfl, F, eb, es, et, ei, ek, ew⟩
      iterate 19 (walk_at "w")
      refine len_t 1 rfl (by decide) ?_
      iterate 11 (walk_at "w")
      rename Fr _ L _ _ => F₃
      exact Done.mk ⟨_, _, rfl, F₃.keep⟩ (congrArg (fun b => Value.bool (b != neg)) (by rw [Bool.eq_iff_iff]; simp; omega))
    | rng l q hl hq =>
      iterate 11 (walk_at "w")
      refine len_t 3 rfl (by decide) ?_
      iterate 22 (walk_at "w")
      refine' cut_ss [45] 1 2 ?cF ?cN ?ca ?cb ?cl ?cab ?ce ?cz ?_
      case cF => exact F
      case cN => exact News.nil
      case ca => rfl
      case cb => rfl
      case cl => exact Nat.le_of_ble_eq_true rfl
      case cab => decide
      case ce => rfl
      case cz => exact Nat.le_of_ble_eq_true rfl
      intro h' t' k F₁ _
      clear F
      iterate 6 (walk_at "w")
      rename Fr _ L _ _ => F₂
      refine cutK (Tk_4 s L neg fc q i ts) (fun K hK => ?_) ?_
      · iterate 15 (walk_at "w")
        split
        · rename (!decide _) = true => hle
          replace hle := not_lt_of hle
          iterate 13 (walk_at "w")
          refine' cut_ss [fc, 45, q] 0 3 ?cF ?cN ?ca ?cb ?cl ?cab ?ce ?cz ?_
          case cF => exact F₂
          case cN => exact News.nil
          case ca => rfl
          case cb => rfl
          case cl => exact Nat.le_of_ble_eq_true rfl
          case cab => decide
          case ce => rfl
          case cz => exact Nat.le_of_ble_eq_true rfl
          intro h' t' k F₃ _
          clear F₂
          iterate 3 (walk_at "w")
          refine' item_m1 2 ?h1 ?h2 ?_
          case h1 => rfl
          case h2 => rfl
          iterate 2 (walk_at "w")
          rename Fr _ L _ _ => F₄
          exact hK _ ⟨_, _, _, _, _, _, rfl, F₄, eb, es, et, congrArg (fun b => some (Value.bool b)) ((congrArg _ (sgl_lt q (97 + i))).trans (by by_cases q : 97 + i ≤ q <;> simp [q, hle] <;> omega)), ek, rfl⟩
        · rename ¬ (!decide _) = true => hle
          have hle' := lt_of_not hle
          walk_at "w"
          rename Fr _ L _ _ => F₃
          exact hK _ ⟨_, _, _, _, _, _, rfl, F₃, eb, es, et, congrArg (fun b => some (Value.bool b)) ((eq_false_of_ne_true hle).trans (decide_eq_false (show ¬ (fc ≤ 97 + i ∧ 97 + i ≤ q) by omega)).symm), ek, rfl⟩
      clear F₂
      rintro _ ⟨h, tk, m, t1, t2, t3, rfl, F, eb, es, et, ei, ek, ew⟩
      iterate 19 (walk_at "w")
      refine len_t 3 rfl (by decide) ?_
      iterate 11 (walk_at "w")
      rename Fr _ L _ _ => F₃
      exact Done.mk ⟨_, _, rfl, F₃.keep⟩ (congrArg (fun b => Value.bool (b != neg)) (rfl))
    | both l q mc hl hq hm =>
      iterate 11 (walk_at "w")
      refine len_t 4 rfl (by decide) ?_
      iterate 22 (walk_at "w")
      refine' cut_ss [45] 1 2 ?cF ?cN ?ca ?cb ?cl ?cab ?ce ?cz ?_
      case cF => exact F
      case cN => exact News.nil
      case ca => rfl
      case cb => rfl
      case cl => exact Nat.le_of_ble_eq_true rfl
      case cab => decide
      case ce => rfl
      case cz => exact Nat.le_of_ble_eq_true rfl
      intro h' t' k F₁ _
      clear F
      iterate 6 (walk_at "w")
      rename Fr _ L _ _ => F₂
      refine cutK (Tk_5 s L neg fc q mc i ts) (fun K hK => ?_) ?_
      · iterate 15 (walk_at "w")
        split
        · rename (!decide _) = true => hle
          replace hle := not_lt_of hle
          iterate 13 (walk_at "w")
          refine' cut_ss [fc, 45, q] 0 3 ?cF ?cN ?ca ?cb ?cl ?cab ?ce ?cz ?_
          case cF => exact F₂
          case cN => exact News.nil
          case ca => rfl
          case cb => rfl
          case cl => exact Nat.le_of_ble_eq_true rfl
          case cab => decide
          case ce => rfl
          case cz => exact Nat.le_of_ble_eq_true rfl
          intro h' t' k F₃ _
          clear F₂
          iterate 3 (walk_at "w")
          refine' item_m1 2 ?h1 ?h2 ?_
          case h1 => rfl
          case h2 => rfl
          iterate 2 (walk_at "w")
          rename Fr _ L _ _ => F₄
          exact hK _ ⟨_, _, _, _, _, _, rfl, F₄, eb, es, et, congrArg (fun b => some (Value.bool b)) ((congrArg _ (sgl_lt q (97 + i))).trans (by by_cases q : 97 + i ≤ q <;> simp [q, hle] <;> omega)), ek, rfl⟩
        · rename ¬ (!decide _) = true => hle
          have hle' := lt_of_not hle
          walk_at "w"
          rename Fr _ L _ _ => F₃
          exact hK _ ⟨_, _, _, _, _, _, rfl, F₃, eb, es, et, congrArg (fun b => some (Value.bool b)) ((eq_false_of_ne_true hle).trans (decide_eq_false (show ¬ (fc ≤ 97 + i ∧ 97 + i ≤ q) by omega)).symm), ek, rfl⟩
      clear F₂
      rintro _ ⟨h, tk, m, t1, t2, t3, rfl, F, eb, es, et, ei, ek, ew⟩
      iterate 19 (walk_at "w")
      refine len_t 4 rfl (by decide) ?_
      iterate 22 (walk_at "w")
      rename Fr _ L _ _ => F₁
      refine' cut_ss [] 4 4 ?cF ?cN ?ca ?cb ?cl ?cab ?ce ?cz ?_
      case cF => exact F₁
      case cN => exact News.nil
      case ca => rfl
      case cb => rfl
      case cl => exact Nat.le_of_ble_eq_true rfl
      case cab => decide
      case ce => rfl
      case cz => exact Nat.le_of_ble_eq_true rfl
      intro h' t' k F₂ _
      clear F₁
      iterate 6 (walk_at "w")
      rename Fr _ L _ _ => F₂
      refine cutK (Tk_6 s L neg fc q mc i ts) (fun K hK => ?_) ?_
      · iterate 4 (walk_at "w")
        split
        · rename decide _ = true => hin
          walk_at "w"
          rename Fr _ L _ _ => F₃
          exact hK _ ⟨_, _, _, _, _, _, rfl, F₃, eb, es, et, by rw [hin]; rfl, rfl, rfl⟩
        · rename ¬ decide _ = true => hin
          replace hin := eq_false_of_ne_true hin
          iterate 10 (walk_at "w")
          split
          · rename (!decide _) = true => hle
            replace hle := not_lt_of hle
            iterate 13 (walk_at "w")
            refine' cut_ss [mc] 3 4 ?cF ?cN ?ca ?cb ?cl ?cab ?ce ?cz ?_
            case cF => exact F₂
            case cN => exact News.nil
            case ca => rfl
            case cb => rfl
            case cl => exact Nat.le_of_ble_eq_true rfl
            case cab => decide
            case ce => rfl
            case cz => exact Nat.le_of_ble_eq_true rfl
            intro h' t' k F₃ _
            clear F₂
            iterate 3 (walk_at "w")
            refine' item_m1 0 ?h1 ?h2 ?_
            case h1 => rfl
            case h2 => rfl
            iterate 2 (walk_at "w")
            rename Fr _ L _ _ => F₄
            exact hK _ ⟨_, _, _, _, _, _, rfl, F₄, eb, es, et, congrArg (fun b => some (Value.bool b)) ((congrArg _ (sgl_lt mc (97 + i))).trans (by rw [hin, Bool.eq_iff_iff]; simp; omega)), rfl, rfl⟩
          · rename ¬ (!decide _) = true => hle
            have hle' := lt_of_not hle
            walk_at "w"
            rename Fr _ L _ _ => F₃
            exact hK _ ⟨_, _, _, _, _, _, rfl, F₃, eb, es, et, congrArg (fun b => some (Value.bool b)) ((eq_false_of_ne_true hle).trans (by rw [hin, Bool.false_or]; exact (beq_eq_false_iff_ne.mpr (by omega)).symm)), rfl, rfl⟩
      clear F₂
      rintro _ ⟨h, tk, m, t1, t2, t3, rfl, F, eb, es, et, ei, ek, ew⟩
      iterate 19 (walk_at "w")
      refine len_t 4 rfl (by decide) ?_
      iterate 11 (walk_at "w")
      rename Fr _ L _ _ => F₃
      exact Done.mk ⟨_, _, rfl, F₃.keep⟩ (congrArg (fun b => Value.bool (b != neg)) rfl)
end Mine

end

theorem Mine.quiet_TRF : True := by
  w_top off
  trivial

section
open PySem PySem.W PyProof.Rows PySem.Calls
namespace Mine
section
variable {prog : Program} {w : World} {A : Around} {E : Value → Shared → Prop} {Q : Flow → Shared → Prop} {s : Shared} {env : Env}
theorem While_any {test : Expr} {body : List Stmt} {pos : Pos} (I : Nat → Shared → Prop) {n₀ : Nat} (h0 : I n₀ s)
    (turn : ∀ n s₁, I n s₁ → wpAny (model prog w) A (isTrue test env (eval test env)) (fun b s₂ =>
        if b = true then wpAny (model prog w) A (execs body env) (NextR fun s₃ => ∃ n', n' < n ∧ I n' s₃) (fun _ _ => False) s₂ else Q .next s₂) (fun _ _ => False) s₁) :
    wpAny (model prog w) A (exec (.While test body [] pos) env) Q (fun _ _ => False) s := by
  have hE : PassesOwn (model prog w) A env (fun _ _ => False) := by passes_own
  refine wpAny_While (codeAny_whileLoop I ?_ n₀ h0)
  intro n s' hI
  refine wpAny_mono (turn n s' hI) (fun b s₂ h₂ => ?_) hE
  cases b with
  | false =>
    simp only [Bool.false_eq_true, if_false] at h₂ ⊢
    exact wpAny_execs_nil h₂
  | true =>
    simp only [if_true] at h₂ ⊢
    refine wpAny_mono h₂ (fun f s₃ h₃ => ?_) hE
    obtain ⟨rfl, n', hn, hI'⟩ := h₃
    exact ⟨n', hn, hI'⟩
end

section
variable {prog : Program} {w : World} {A : Around} {E : Value → Shared → Prop} {Q : Flow → Shared → Prop} {s : Shared} {env : Env}
theorem While_K {test : Expr} {body : List Stmt} {pos : Pos} (I : Nat → Shared → Prop) {n₀ : Nat} (h0 : I n₀ s)
    (turn : ∀ n s₁ (K : Flow → Shared → Prop), (∀ s₃, (∃ n', n' < n ∧ I n' s₃) → K .next s₃) → I n s₁ → wpAny (model prog w) A (isTrue test env (eval test env)) (fun b s₂ =>
        if b = true then wpAny (model prog w) A (execs body env) K (fun _ _ => False) s₂ else Q .next s₂) (fun _ _ => False) s₁) :
    wpAny (model prog w) A (exec (.While test body [] pos) env) Q (fun _ _ => False) s :=
  While_any I h0 fun n s₁ h => turn n s₁ _ (fun _ h => ⟨rfl, h⟩) h
end
section
variable (s : Shared) (L : Addr) (P : List Nat) (S : Addr) (t tq : Tok) (D AD : Addr)
/-- the scan for the closing bracket -/
inductive TrJ (B : List Nat) (ns : List (Addr × Obj)) (ti tn : Tok) (iv : Nat) (n : Nat) (m : Str → Option Value) (news : List (Addr × Obj)) : Prop
  | mk (j : Nat) (tj : Tok) (en : n = B.length - j) (hj : j ≤ B.length) (es : news = ns)
    (e1 : m (Str.ofString "pat") = some (.str (txt P) t)) (e2 : m (Str.ofString "STAR") = some (.ref S)) (e3 : m (Str.ofString "QUESTION_MARK") = some (.str (txt [46]) tq)) (e4 : m (Str.ofString "res") = some (.ref D)) (e5 : m (Str.ofString "add") = some (.ref AD))
    (e6 : m (Str.ofString "i") = some (.int (iv : Int) ti)) (e7 : m (Str.ofString "n") = some (.int P.length tn)) (e8 : m (Str.ofString "j") = some (.int ((iv + j : Nat) : Int) tj))
/-- what stays in _translate between two statements -/
inductive TrA (gs : Array GenState) (news : List (Addr × Obj)) (tn : Tok) (iv jv : Nat) (s' : Shared) : Prop
  | mk (h : Heap) (tk : Nat) (m : Str → Option Value) (ti tj : Tok) (e : s' = ⟨h, gs, s.drawn, tk, s.os⟩) (F : Fr (hideAll s.heap [77]) L h m) (N : News (hideAll s.heap [77]) L h news)
    (e1 : m (Str.ofString "pat") = some (.str (txt P) t)) (e2 : m (Str.ofString "STAR") = some (.ref S)) (e3 : m (Str.ofString "QUESTION_MARK") = some (.str (txt [46]) tq)) (e4 : m (Str.ofString "res") = some (.ref D)) (e5 : m (Str.ofString "add") = some (.ref AD))
    (e6 : m (Str.ofString "i") = some (.int (iv : Int) ti)) (e7 : m (Str.ofString "n") = some (.int P.length tn)) (e8 : m (Str.ofString "j") = some (.int (jv : Int) tj))
inductive TrC (gs : Array GenState) (news : List (Addr × Obj)) (tn : Tok) (iv jv : Nat) (CH : Addr) (s' : Shared) : Prop
  | mk (h : Heap) (tk : Nat) (m : Str → Option Value) (ti tj : Tok) (e : s' = ⟨h, gs, s.drawn, tk, s.os⟩) (F : Fr (hideAll s.heap [77]) L h m) (N : News (hideAll s.heap [77]) L h news)
    (e1 : m (Str.ofString "pat") = some (.str (txt P) t)) (e2 : m (Str.ofString "STAR") = some (.ref S)) (e3 : m (Str.ofString "QUESTION_MARK") = some (.str (txt [46]) tq)) (e4 : m (Str.ofString "res") = some (.ref D)) (e5 : m (Str.ofString "add") = some (.ref AD))
    (e6 : m (Str.ofString "i") = some (.int (iv : Int) ti)) (e7 : m (Str.ofString "n") = some (.int P.length tn)) (e8 : m (Str.ofString "j") = some (.int (jv : Int) tj)) (e9 : m (Str.ofString "chunks") = some (.ref CH))
inductive TrY (gs : Array GenState) (ss : List Str) (news : List (Addr × Obj)) (tn : Tok) (iv jv : Nat) (CH : Addr) (s' : Shared) : Prop
  | mk (ys : List Value) (nc : Nat) (h : Heap) (tk : Nat) (m : Str → Option Value) (ti tj : Tok) (e : s' = ⟨h, gs, s.drawn, tk, s.os⟩) (hys : StrsAre ys ss) (F : Fr (hideAll s.heap [77]) L h m) (N : News (hideAll s.heap [77]) L h ((CH, listOf (List.toArray ys) nc) :: news))
    (e1 : m (Str.ofString "pat") = some (.str (txt P) t)) (e2 : m (Str.ofString "STAR") = some (.ref S)) (e3 : m (Str.ofString "QUESTION_MARK") = some (.str (txt [46]) tq)) (e4 : m (Str.ofString "res") = some (.ref D)) (e5 : m (Str.ofString "add") = some (.ref AD))
    (e6 : m (Str.ofString "i") = some (.int (iv : Int) ti)) (e7 : m (Str.ofString "n") = some (.int P.length tn)) (e8 : m (Str.ofString "j") = some (.int (jv : Int) tj)) (e9 : m (Str.ofString "chunks") = some (.ref CH))
inductive TrD (gs : Array GenState) (news : List (Addr × Obj)) (tn : Tok) (iv jv : Nat) (CH : Addr) (kv : Nat) (s' : Shared) : Prop
  | mk (h : Heap) (tk : Nat) (m : Str → Option Value) (ti tj tk2 : Tok) (e : s' = ⟨h, gs, s.drawn, tk, s.os⟩) (F : Fr (hideAll s.heap [77]) L h m) (N : News (hideAll s.heap [77]) L h news)
    (e1 : m (Str.ofString "pat") = some (.str (txt P) t)) (e2 : m (Str.ofString "STAR") = some (.ref S)) (e3 : m (Str.ofString "QUESTION_MARK") = some (.str (txt [46]) tq)) (e4 : m (Str.ofString "res") = some (.ref D)) (e5 : m (Str.ofString "add") = some (.ref AD))
    (e6 : m (Str.ofString "i") = some (.int (iv : Int) ti)) (e7 : m (Str.ofString "n") = some (.int P.length tn)) (e8 : m (Str.ofString "j") = some (.int (jv : Int) tj)) (e9 : m (Str.ofString "chunks") = some (.ref CH)) (e10 : m (Str.ofString "k") = some (.int (kv : Int) tk2))
inductive TrB (gs : Array GenState) (news : List (Addr × Obj)) (tn : Tok) (iv jv : Nat) (z : List Nat) (s' : Shared) : Prop
  | mk (h : Heap) (tk : Nat) (m : Str → Option Value) (ti tj tb : Tok) (e : s' = ⟨h, gs, s.drawn, tk, s.os⟩) (F : Fr (hideAll s.heap [77]) L h m) (N : News (hideAll s.heap [77]) L h news)
    (e1 : m (Str.ofString "pat") = some (.str (txt P) t)) (e2 : m (Str.ofString "STAR") = some (.ref S)) (e3 : m (Str.ofString "QUESTION_MARK") = some (.str (txt [46]) tq)) (e4 : m (Str.ofString "res") = some (.ref D)) (e5 : m (Str.ofString "add") = some (.ref AD))
    (e6 : m (Str.ofString "i") = some (.int (iv : Int) ti)) (e7 : m (Str.ofString "n") = some (.int P.length tn)) (e8 : m (Str.ofString "j") = some (.int (jv : Int) tj)) (e9 : m (Str.ofString "stuff") = some (.str (txt z) tb))
inductive TrE (news : List (Addr × Obj)) (tn : Tok) (iv jv : Nat) (z : List Nat) (s' : Shared) : Prop
  | mk (h : Heap) (gs : Array GenState) (tk : Nat) (m : Str → Option Value) (ps₃ : Array Value) (ti tj tb : Tok) (e : s' = ⟨h, gs, s.drawn, tk, s.os⟩) (hgs : AllBare gs) (ht : TriplesOk ps₃.toList) (F : Fr (hideAll s.heap [77]) L h m) (N : News (hideAll s.heap [77]) L h (news ++ [(77, tabObj ps₃)]))
    (e1 : m (Str.ofString "pat") = some (.str (txt P) t)) (e2 : m (Str.ofString "STAR") = some (.ref S)) (e3 : m (Str.ofString "QUESTION_MARK") = some (.str (txt [46]) tq)) (e4 : m (Str.ofString "res") = some (.ref D)) (e5 : m (Str.ofString "add") = some (.ref AD))
    (e6 : m (Str.ofString "i") = some (.int (iv : Int) ti)) (e7 : m (Str.ofString "n") = some (.int P.length tn)) (e8 : m (Str.ofString "j") = some (.int (jv : Int) tj)) (e9 : m (Str.ofString "stuff") = some (.str (txt z) tb))
/-- before a turn of the loop -/
inductive TrW (its : List Item) (st : Bool) (n : Nat) (s' : Shared) : Prop
  | mk (h : Heap) (gs : Array GenState) (tk : Nat) (m : Str → Option Value) (vs : List Value) (nv : Nat) (ps' : Array Value) (i : Nat) (e : s' = ⟨h, gs, s.drawn, tk, s.os⟩) (hgs : AllBare gs) (F : Fr (hideAll s.heap [77]) L h m) (N : News (hideAll s.heap [77]) L h [(AD, boundObj D), (D, listOf (List.toArray vs) nv), (77, tabObj ps')]) (ht : TriplesOk ps'.toList)
    (e1 : m (Str.ofString "pat") = some (.str (txt P) t)) (e2 : m (Str.ofString "STAR") = some (.ref S)) (e3 : m (Str.ofString "QUESTION_MARK") = some (.str (txt [46]) tq)) (e4 : m (Str.ofString "res") = some (.ref D)) (e5 : m (Str.ofString "add") = some (.ref AD))
    (e6 : ∃ ti, m (Str.ofString "i") = some (.int (i : Nat) ti)) (e7 : ∃ tn, m (Str.ofString "n") = some (.int P.length tn)) (en : n = P.length - i)
    (hat : (∃ k, k ≤ its.length ∧ i = ((its.take k).map Item.text).flatten.length ∧ StrsAre vs ((its.take k).map fun it => txt it.part)) ∨ (st = true ∧ i = P.length ∧ ∃ vs', vs = vs' ++ [.ref S] ∧ StrsAre vs' (its.map fun it => txt it.part)))
/-- behind the loop -/
inductive TrZ (its : List Item) (st : Bool) (s' : Shared) : Prop
  | mk (h : Heap) (gs : Array GenState) (tk : Nat) (m : Str → Option Value) (vs : List Value) (nv : Nat) (ps' : Array Value) (e : s' = ⟨h, gs, s.drawn, tk, s.os⟩) (hgs : AllBare gs) (F : Fr (hideAll s.heap [77]) L h m) (N : News (hideAll s.heap [77]) L h [(AD, boundObj D), (D, listOf (List.toArray vs) nv), (77, tabObj ps')]) (ht : TriplesOk ps'.toList)
    (e4 : m (Str.ofString "res") = some (.ref D)) (e6 : ∃ ti, m (Str.ofString "i") = some (.int P.length ti)) (e7 : ∃ tn, m (Str.ofString "n") = some (.int P.length tn))
    (hv : if st = true then ∃ vs', vs = vs' ++ [.ref S] ∧ StrsAre vs' (its.map fun it => txt it.part) else StrsAre vs (its.map fun it => txt it.part))
end
theorem clip_nat {i d : Int} {k n : Nat} (e : i = (k : Int)) (h : k ≤ n) : clipI (some i) d (n : Int) = (k : Int) := by
  subst e
  simp only [clipI]
  rw [if_neg (by omega)]; omega
theorem clip_m1 {x : Nat} : max (0 : Int) (min (-1 + ((x : Int) + 1)) ((x : Int) + 1)) = (x : Int) := by omega
theorem clip_1 {x : Nat} : max (0 : Int) (min 1 ((x : Int) + 1)) = 1 := by omega
theorem clip_2 {x : Nat} : max (0 : Int) (min 1 ((x : Int) + 1 + 1)) = 1 := by omega
theorem down {n a c : Nat} (h : a < n) (hc : a < c) : n - c < n - a := Nat.sub_lt_sub_left h hc
theorem past {a b : Nat} : a < a + 1 + b + 1 := Nat.lt_succ_of_le (Nat.le_trans (Nat.le_succ _) (Nat.le_add_right _ _))
/-- what _translate leaves -/
def TRpost (s : Shared) (its : List Item) (st : Bool) (S : Addr) (v : Value) (s' : Shared) : Prop :=
  ∃ h' gs tk vs nv ps' D, s' = ⟨h', gs, s.drawn, tk, s.os⟩ ∧ v = .ref D ∧ AllBare gs ∧ (∀ b o, b ≠ 77 → s.heap.get? b = some o → h'.get? b = some o) ∧ h'.get? 77 = some (tabObj ps') ∧ TriplesOk ps'.toList ∧
    s.heap.get? D = none ∧ h'.get? D = some (listOf (List.toArray vs) nv) ∧
    (if st = true then ∃ vs', vs = vs' ++ [.ref S] ∧ StrsAre vs' (its.map fun it => txt it.part) else StrsAre vs (its.map fun it => txt it.part))
set_option maxRecDepth 100000 in
set_option maxHeartbeats 0 in
theorem translate (w : World) (A : Around) (s : Shared) (g : Heap) (G : Gnd w g) (hg : ∀ b o, g.get? b = some o → s.heap.get? b = some o) (h77 : g.get? 77 = none) (ps : Array Value) (e77 : s.heap.get? 77 = some (tabObj ps)) (ht : TriplesOk ps.toList)
   (hd : A.depth + 4 < recursionLimit) (hh : A.handled = none) (its : List Item) (hok : ∀ it ∈ its, it.ok) (hlen : its.length ≤ 3) (hlen0 : 1 ≤ its.length) (st : Bool) (S : Addr) (t tq : Tok) (hgens : AllBare s.gens) :
   wpAny (model PR w) A (call (.ref 82) [.str (txt ((its.map Item.text).flatten ++ (if st = true then [42] else []))) t, .ref S, .str (txt [46]) tq]) (fun v s' => TRpost s its st S v s') (fun _ _ => False) s := by
  obtain ⟨hdl, dp, fr, gds, un⟩ := A
  dsimp only at hh hd
  subst hh
  have hPl : ((its.map Item.text).flatten ++ (if st = true then [42] else [])).length ≤ 22 := by
    have h1 := texts_len its hok
    have h2 : (if st = true then [42] else [] : List Nat).length ≤ 1 := by split <;> simp
    rw [List.length_append]; omega
  generalize hP : ((its.map Item.text).flatten ++ (if st = true then [42] else [])) = P at hPl ⊢
  refine enterG (g := hideAll s.heap [77]) (G.keeps fun b o e => hide_keep (hg b o e) fun q => by rw [q, h77] at e; cases e) (fun b o e => hide_of e) hide_size (ho := rfl) (hcd := rfl) (by show dp < _; omega) (bindsK (G.keeps hg) (fun _ => rfl)) (locs rfl) rfl rfl rfl (by decide) ?_
  intro L h₁ hL F hk₁
  have G' : Gnd w (hideAll s.heap [77]) := G.keeps fun b o e => hide_keep (hg b o e) fun q => by rw [q, h77] at e; cases e
  obtain ⟨p, loose, mean, mg, mb, T⟩ := G'.t
  have X := G'.x
  have hrow : PySem.Challenge.rw_in0020_01 = PySem.Challenge.rw_in0020_01 := rfl
  revert hrow X
  k_fill
  intro X hrow
  have lt77 := Heap.lt_size e77
  have N : News (hideAll s.heap [77]) L h₁ [(77, tabObj ps)] := fun p hp => by
    rw [List.mem_singleton.mp hp]
    refine ⟨hk₁ _ _ e77, ?_, hide_none⟩
    show 77 ≠ L
    exact Nat.ne_of_lt (hL ▸ lt77)
  iterate 11 (walk_at "w")
  rename News _ L _ _ => N₁
  rename Fr _ L _ _ => F₁
  rename _ < _ => l1
  rename_i D ha tkx
  refine get_append (N₁.get (.head _)) ?_
  have F₂ := F₁.push (boundObj D)
  have N₂ := N₁.push F₁ (boundObj D)
  have l2 : D < _ ∧ 77 < _ := ⟨Heap.lt_size (N₁.get (.head _)), Heap.lt_size (N₁.get (.tail _ (.head _)))⟩
  clear F₁ N₁
  generalize tkx.objs.size = AD at F₂ N₂ l2 ⊢
  iterate 13 (walk_at "w")
  refine len_t P.length rfl (by omega) ?_
  iterate 10 (walk_at "w")
  rename News _ L _ _ => N₁
  rename Fr _ L _ _ => F₁
  refine cutK (TrZ s L P S D AD its st) (fun K0 hK0 => ?_) ?_
  · refine While_K (TrW s L P S t tq D AD its st)
      ⟨_, _, _, _, [], 0, ps, 0, rfl, hgens, F₁, fun p hp => N₁ p (by first | exact hp | exact .tail _ hp), ht, rfl, rfl, rfl, rfl, rfl, ⟨_, rfl⟩, ⟨_, rfl⟩, rfl, .inl ⟨0, Nat.zero_le _, by simp, by exact .nil⟩⟩ ?_
    clear F₁ N₁
    rintro n s₁ K hK ⟨h, gs, tk, m, vs, nv, ps', i, rfl, hgs, F, N, ht', e1, e2, e3, e4, e5, ⟨ti, e6⟩, ⟨tn, e7⟩, rfl, hat⟩
    iterate 5 (walk_at "w")
    rcases hat with ⟨k, hk, rfl, hvs⟩ | ⟨rfl, rfl, vs', rfl, hvs⟩
    · generalize hpre : ((its.take k).map Item.text).flatten = pre at e6 hK ⊢
      rcases pos_cases hP hk with ⟨it, rest, hit, hk', hPe, htake⟩ | ⟨rfl, rfl, hPe⟩ | ⟨rfl, rfl, hPe⟩
      · rw [hpre] at hPe
        have hlt : pre.length < P.length := by obtain ⟨c, r, e⟩ := text_pos it; rw [hPe, e]; simp
        rw [if_pos (by simp; exact_mod_cast hlt)]
        have hpk : pre.length + it.text.length = ((its.take (k + 1)).map Item.text).flatten.length := by rw [htake, List.map_append, List.flatten_append, hpre, List.length_append]; simp
        have ok := hok it hit
        have hch : ∀ n {c}, (it.text ++ rest)[n]? = some c → P[pre.length + n]? = some c := fun n c h => by rw [hPe, at_pre]; exact h
        have hvz : vs.toArray.size ≤ 1000 := by have := strs_len hvs; simp at this ⊢; omega
        cases it with
        | lit c =>
          iterate 5 (walk_at "w")
          refine' item_n pre.length ?h1 ?h2 ?h3 ?_
          case h1 => rfl
          case h2 => exact hch 0 rfl
          case h3 => omega
          obtain ⟨ok1, ok2⟩ := ok
          iterate 15 (walk_at "w")
          rw [if_neg (ne1 lit_s (by omega))]
          iterate 8 (walk_at "w")
          rw [if_neg (ne1 lit_q (by omega))]
          iterate 8 (walk_at "w")
          rw [if_neg (ne1 lit_o (by omega))]
          iterate 5 (walk_at "w")
          refine callWith_bd (a := D) ?_
          iterate 8 (walk_at "w")
          rename Fr _ L _ _ => F₃
          rename News _ L _ _ => N₃
          refine use (escape_c w _ _ (G'.keeps F₃.keep) ?zd rfl c ⟨ok1, ok2⟩ _) ?_
          case zd => show dp + 1 + 2 < _; omega
          rintro v h' tk' hk ⟨t', rfl⟩
          have F₄ := F₃.keeps hk
          have N₄ := N₃.grown hk
          clear F₃ N₃
          walk_at "w"
          refine ⟨N₄.get (.head _), ?_⟩
          refine' call_bound ?b1 ?b2 hvz ?_
          case b1 => exact N₄.get (.tail _ (.head _))
          case b2 => exact N₄.get (.head _)
          intro h₅ n₅ e₅ hs₅
          have F₅ := F₄.change hs₅ (N₄ _ (.tail _ (.head _))).2.1 (N₄ _ (.tail _ (.head _))).2.2
          have N₅ := news_put N₄ hs₅ e₅ (Nat.ne_of_gt l2.1) (Nat.ne_of_lt l1)
          rw [List.push_toArray] at N₅
          clear F₄ N₄
          iterate 4 (walk_at "w")
          exact hK _ ⟨P.length - (pre.length + 1), down hlt (Nat.lt_succ_self _), _, _, _, _, _, _, _, pre.length + 1, rfl, hgs, F₅, N₅, ht', e1, e2, e3, e4, e5, ⟨_, rfl⟩, ⟨_, e7⟩, rfl, .inl ⟨k + 1, hk', hpk, by rw [htake, List.map_append]; exact hvs.append' (.cons _ _ .nil)⟩⟩
        | any =>
          iterate 5 (walk_at "w")
          refine' item_n pre.length ?h1 ?h2 ?h3 ?_
          case h1 => rfl
          case h2 => exact hch 0 rfl
          case h3 => omega
          iterate 30 (walk_at "w")
          refine callWith_bd (a := D) ?_
          iterate 3 (walk_at "w")
          rename Fr _ L _ _ => F₄
          rename News _ L _ _ => N₄
          refine ⟨N₄.get (.head _), ?_⟩
          refine' call_bound ?b1 ?b2 hvz ?_
          case b1 => exact N₄.get (.tail _ (.head _))
          case b2 => exact N₄.get (.head _)
          intro h₅ n₅ e₅ hs₅
          have F₅ := F₄.change hs₅ (N₄ _ (.tail _ (.head _))).2.1 (N₄ _ (.tail _ (.head _))).2.2
          have N₅ := news_put N₄ hs₅ e₅ (Nat.ne_of_gt l2.1) (Nat.ne_of_lt l1)
          rw [List.push_toArray] at N₅
          clear F₄ N₄
          iterate 3 (walk_at "w")
          exact hK _ ⟨P.length - (pre.length + 1), down hlt (Nat.lt_succ_self _), _, _, _, _, _, _, _, pre.length + 1, rfl, hgs, F₅, N₅, ht', e1, e2, e3, e4, e5, ⟨_, rfl⟩, ⟨_, e7⟩, rfl, .inl ⟨k + 1, hk', hpk, by rw [htake, List.map_append]; exact hvs.append' (.cons _ _ .nil)⟩⟩
        | set neg l hh mo =>
          obtain ⟨⟨okl, okl'⟩, ⟨okh, okh'⟩, okm⟩ := ok
          obtain ⟨B, hB⟩ : ∃ B, B = bang neg ++ (l :: 45 :: hh :: mo) := ⟨_, rfl⟩
          have hPB : P = pre ++ 91 :: (B ++ 93 :: rest) := by rw [hPe, hB]; cases neg <;> simp [Item.text, bang]
          have hPj : P[pre.length + 1 + B.length]? = some 93 := by rw [hPB, show pre.length + 1 + B.length = pre.length + (1 + B.length) by omega, at_pre]; simp [Nat.add_comm 1]
          have hPn : ∀ n {c}, B[n]? = some c → P[pre.length + 1 + n]? = some c := fun n c h => by
            rw [hPB, show pre.length + 1 + n = pre.length + (1 + n) by omega, at_pre, Nat.add_comm 1, List.getElem?_cons_succ, List.getElem?_append_left (List.getElem?_eq_some_iff.mp h).1]; exact h
          have hBJ : pre.length + 1 + B.length < P.length := by rw [hPB]; simp; omega
          have hB0 : pre.length + 1 + B.length ≤ P.length := Nat.le_of_lt hBJ
          have hB1 : pre.length + 1 ≤ P.length := Nat.le_trans (Nat.le_add_right _ _) hB0
          have hdn : P.length - (pre.length + 1 + B.length + 1) < P.length - pre.length := down hlt past
          have hml : mo.length ≤ 1 := by rcases okm with rfl | ⟨mc, rfl, _⟩ <;> simp
          have hb3 : (bang neg).length + 3 ≤ B.length := by rw [hB]; simp
          have hB93 : ∀ c ∈ B, c ≠ 93 := by
            intro c hc
            rw [hB] at hc
            rcases okm with rfl | ⟨mc, rfl, hmc⟩ <;> cases neg <;> simp [bang] at hc <;> first | (obtain ⟨hm1, hm2⟩ := hmc; omega) | omega
          iterate 5 (walk_at "w")
          refine' item_n pre.length ?h1 ?h2 ?h3 ?_
          case h1 => rfl
          case h2 => exact hch 0 (c := 91) (by cases neg <;> rfl)
          case h3 => omega
          walk_at "w"
          iterate 7 (walk_at "w")
          iterate 8 (walk_at "w")
          walk_at "w"
          iterate 8 (walk_at "w")
          walk_at "w"
          iterate 8 (walk_at "w")
          rename Fr _ L _ _ => F₁
          rename News _ L _ _ => N₁
          refine cutK (TrA s L P S t tq D AD gs [(AD, boundObj D), (D, listOf (List.toArray vs) nv), (77, tabObj ps')] tn (pre.length + 1) (pre.length + 1)) (fun K hK => ?_) ?_
          · iterate 3 (walk_at "w")
            rename Fr _ L _ _ => F₁
            rename News _ L _ _ => N₁
            exact hK _ ⟨_, _, _, _, _, rfl, F₁, N₁, e1, e2, e3, e4, e5, rfl, e7, rfl⟩
          clear F₁ N₁
          rintro _ ⟨h, tk, m, ti, tj, rfl, F, N, e1, e2, e3, e4, e5, e6, e7, e8⟩
          refine cutK (TrA s L P S t tq D AD gs [(AD, boundObj D), (D, listOf (List.toArray vs) nv), (77, tabObj ps')] tn (pre.length + 1) (pre.length + 1 + (bang neg).length)) (fun K hK => ?_) ?_
          · iterate 7 (walk_at "w")
            rw [if_pos (decide_eq_true (by omega))]
            iterate 5 (walk_at "w")
            cases neg with
            | true =>
              refine' item_n (pre.length + 1) ?h1 ?h2 ?h3 ?_
              case h1 => rfl
              case h2 => exact hPn 0 (c := 33) (by rw [hB]; rfl)
              case h3 => omega
              iterate 15 (walk_at "w")
              rename Fr _ L _ _ => F₁
              rename News _ L _ _ => N₁
              exact hK _ ⟨_, _, _, _, _, rfl, F₁, N₁, e1, e2, e3, e4, e5, e6, e7, rfl⟩
            | false =>
              refine' item_n (pre.length + 1) ?h1 ?h2 ?h3 ?_
              case h1 => rfl
              case h2 => exact hPn 0 (c := l) (by rw [hB]; rfl)
              case h3 => omega
              iterate 3 (walk_at "w")
              rw [if_neg (ne1 lit_b (by omega))]
              iterate 3 (walk_at "w")
              rename Fr _ L _ _ => F₁
              rename News _ L _ _ => N₁
              exact hK _ ⟨_, _, _, _, _, rfl, F₁, N₁, e1, e2, e3, e4, e5, e6, e7, e8⟩
          clear F N e1 e2 e3 e4 e5 e6 e7 e8
          rintro _ ⟨h, tk, m, ti, tj, rfl, F, N, e1, e2, e3, e4, e5, e6, e7, e8⟩
          refine cutK (TrA s L P S t tq D AD gs [(AD, boundObj D), (D, listOf (List.toArray vs) nv), (77, tabObj ps')] tn (pre.length + 1) (pre.length + 1 + (bang neg).length)) (fun K hK => ?_) ?_
          · iterate 7 (walk_at "w")
            have hbl : (bang neg).length < B.length := by rw [hB]; simp
            rw [if_pos (decide_eq_true (by omega))]
            iterate 5 (walk_at "w")
            refine' item_n (pre.length + 1 + (bang neg).length) ?h1 ?h2 ?h3 ?_
            case h1 => rfl
            case h2 => exact hPn _ (c := l) (by rw [hB, List.getElem?_append_right (Nat.le_refl _), Nat.sub_self]; rfl)
            case h3 => omega
            iterate 3 (walk_at "w")
            rw [if_neg (ne1 lit_c (by omega))]
            iterate 3 (walk_at "w")
            rename Fr _ L _ _ => F₁
            rename News _ L _ _ => N₁
            exact hK _ ⟨_, _, _, _, _, rfl, F₁, N₁, e1, e2, e3, e4, e5, e6, e7, e8⟩
          clear F N e1 e2 e3 e4 e5 e6 e7 e8
          rintro _ ⟨h, tk, m, ti, tj, rfl, F, N, e1, e2, e3, e4, e5, e6, e7, e8⟩
          refine cutK (TrA s L P S t tq D AD gs [(AD, boundObj D), (D, listOf (List.toArray vs) nv), (77, tabObj ps')] tn (pre.length + 1) (pre.length + 1 + B.length)) (fun K hK => ?_) ?_
          · refine While_inv (TrJ P S t tq D AD B [(AD, boundObj D), (D, listOf (List.toArray vs) nv), (77, tabObj ps')] ti tn (pre.length + 1)) F N
              ⟨(bang neg).length, tj, rfl, by rw [hB]; simp, rfl, e1, e2, e3, e4, e5, e6, e7, e8⟩ ?_
            clear F N e1 e2 e3 e4 e5 e6 e7 e8
            rintro n m news h₂ tk₂ F N ⟨j, tj, rfl, hj, rfl, e1, e2, e3, e4, e5, e6, e7, e8⟩
            iterate 6 (walk_at "w")
            rw [if_pos (decide_eq_true (by omega))]
            iterate 5 (walk_at "w")
            by_cases hjB : j < B.length
            · refine' item_n (pre.length + 1 + j) ?h1 ?h2 ?h3 ?_
              case h1 => rfl
              case h2 => exact hPn j (List.getElem?_eq_getElem hjB)
              case h3 => omega
              iterate 3 (walk_at "w")
              have hne : (txt [B[j]] != Str.ofString "]") = true := by rw [lit_c, txt_bne, decide_eq_false (show ¬ [B[j]] = [93] from fun e => hB93 _ (List.getElem_mem hjB) (by injection e))]; rfl
              rw [if_pos hne]
              iterate 11 (walk_at "w")
              rename Fr _ L _ _ => F₁
              rename News _ L _ _ => N₁
              refine' WhileStep.intro (n' := B.length - (j + 1)) ?wF ?wN ?wn ?wJ
              case wF => exact F₁
              case wN => exact N₁
              case wn => omega
              exact ⟨j + 1, _, rfl, by omega, rfl, e1, e2, e3, e4, e5, e6, e7, rfl⟩
            · refine' item_n (pre.length + 1 + j) ?h1 ?h2 ?h3 ?_
              case h1 => rfl
              case h2 => rw [show j = B.length by omega]; exact hPj
              case h3 => omega
              iterate 5 (walk_at "w")
              obtain rfl : j = B.length := by omega
              rename Fr _ L _ _ => F₁
              rename News _ L _ _ => N₁
              exact hK _ ⟨_, _, _, _, _, rfl, F₁, N₁, e1, e2, e3, e4, e5, e6, e7, e8⟩
          clear F N e1 e2 e3 e4 e5 e6 e7 e8
          rintro _ ⟨h, tk, m, ti, tj, rfl, F, N, e1, e2, e3, e4, e5, e6, e7, e8⟩
          iterate 7 (walk_at "w")
          rw [if_neg (by simp; omega)]
          refine cutK (TrB s L P S t tq D AD gs [(AD, boundObj D), (D, listOf (List.toArray vs) nv), (77, tabObj ps')] tn (pre.length + 1) (pre.length + 1 + B.length) B) (fun K hK => ?_) ?_
          · iterate 9 (walk_at "w")
            refine' cut_ss B (pre.length + 1) (pre.length + 1 + B.length) ?cF ?cN ?ca ?cb ?cl ?cab ?ce ?cz ?_
            case cF => exact F
            case cN => exact N
            case ca => exact clip_nat (by first | rfl | omega) hB1
            case cb => exact clip_nat (by first | rfl | omega) hB0
            case cl => omega
            case cab => omega
            case ce => exact mid_cut (a := pre ++ [91]) (c := 93 :: rest) (by rw [hPB]; simp) (by simp) (by omega)
            case cz => omega
            intro h' t' k' F₁ N₁
            walk_at "w"
            rename Fr _ L _ _ => F₁
            rename News _ L _ _ => N₁
            exact hK _ ⟨_, _, _, _, _, _, rfl, F₁, N₁, e1, e2, e3, e4, e5, e6, e7, e8, rfl⟩
          clear F N e1 e2 e3 e4 e5 e6 e7 e8
          rintro _ ⟨h, tk, m, ti, tj, tb, rfl, F, N, e1, e2, e3, e4, e5, e6, e7, e8, e9⟩
          refine cutK (TrE s L P S t tq D AD [(AD, boundObj D), (D, listOf (List.toArray vs) nv)] tn (pre.length + 1 + (bang neg).length + 2) (pre.length + 1 + B.length) (bang neg ++ left l hh mo)) (fun K hK => ?_) ?_
          · iterate 6 (walk_at "w")
            have hB45 : 45 ∈ B := by rw [hB]; simp
            rw [if_neg (by rw [has_dash B hB45]; decide)]
            refine cutK (fun s' => ∃ CH, (D < CH ∧ 77 < CH ∧ AD < CH) ∧ TrC s L P S t tq D AD gs ((CH, listOf #[] 0) :: [(AD, boundObj D), (D, listOf (List.toArray vs) nv), (77, tabObj ps')]) tn (pre.length + 1) (pre.length + 1 + B.length) CH s') (fun K hK => ?_) ?_
            · iterate 5 (walk_at "w")
              rename Fr _ L _ _ => F₁
              rename News _ L _ _ => N₁
              rename _ ∧ _ => l3
              exact hK _ ⟨_, ⟨l3.2.1, l3.2.2, l3.1⟩, _, _, _, _, _, rfl, F₁, N₁, e1, e2, e3, e4, e5, e6, e7, e8, rfl⟩
            clear F N e1 e2 e3 e4 e5 e6 e7 e8 e9
            rintro _ ⟨CH, l3, h, tk, m, ti, tj, rfl, F, N, e1, e2, e3, e4, e5, e6, e7, e8, e9⟩
            refine cutK (TrD s L P S t tq D AD gs ((CH, listOf #[] 0) :: [(AD, boundObj D), (D, listOf (List.toArray vs) nv), (77, tabObj ps')]) tn (pre.length + 1) (pre.length + 1 + B.length) CH (pre.length + 1 + (bang neg).length + 1)) (fun K hK => ?_) ?_
            · iterate 6 (walk_at "w")
              cases neg with
              | true =>
                refine' item_n (pre.length + 1) ?h1 ?h2 ?h3 ?_
                case h1 => rfl
                case h2 => exact hPn 0 (c := 33) (by rw [hB]; rfl)
                case h3 => omega
                iterate 9 (walk_at "w")
                rename Fr _ L _ _ => F₁
                rename News _ L _ _ => N₁
                exact hK _ ⟨_, _, _, _, _, _, rfl, F₁, N₁, e1, e2, e3, e4, e5, e6, e7, e8, e9, rfl⟩
              | false =>
                refine' item_n (pre.length + 1) ?h1 ?h2 ?h3 ?_
                case h1 => rfl
                case h2 => exact hPn 0 (c := l) (by rw [hB]; rfl)
                case h3 => omega
                iterate 3 (walk_at "w")
                rw [if_neg (ne1 lit_b (by omega))]
                iterate 5 (walk_at "w")
                rename Fr _ L _ _ => F₁
                rename News _ L _ _ => N₁
                exact hK _ ⟨_, _, _, _, _, _, rfl, F₁, N₁, e1, e2, e3, e4, e5, e6, e7, e8, e9, rfl⟩
            clear F N e1 e2 e3 e4 e5 e6 e7 e8 e9
            rintro _ ⟨h, tk, m, ti, tj, tk2, rfl, F, N, e1, e2, e3, e4, e5, e6, e7, e8, e9, e10⟩
            refine cutK (fun s' => ∃ ta nc, TrC s L P S t tq D AD gs ((CH, listOf #[.str (txt (bang neg ++ [l])) ta] nc) :: [(AD, boundObj D), (D, listOf (List.toArray vs) nv), (77, tabObj ps')]) tn (pre.length + 1 + (bang neg).length + 2) (pre.length + 1 + B.length) CH s') (fun K hK => ?_) ?_
            rotate_left
            · clear F N e1 e2 e3 e4 e5 e6 e7 e8 e9 e10
              rintro _ ⟨ta, nc, h, tk, m, ti, tj, rfl, F, N, e1, e2, e3, e4, e5, e6, e7, e8, e9⟩
              iterate 10 (walk_at "w")
              refine' cut_ss (hh :: mo) (pre.length + 1 + (bang neg).length + 2) (pre.length + 1 + B.length) ?cF ?cN ?ca ?cb ?cl ?cab ?ce ?cz ?_
              case cF => exact F
              case cN => exact N
              case ca => exact clip_nat (by first | rfl | omega) (by omega)
              case cb => exact clip_nat (by first | rfl | omega) hB0
              case cl => omega
              case cab => omega
              case ce => exact mid_cut (a := pre ++ 91 :: (bang neg ++ [l, 45])) (c := 93 :: rest) (by rw [hPB, hB]; simp) (by simp; omega) (by rw [hB]; simp; omega)
              case cz => omega
              intro h' t' k' F₂ N₂
              walk_at "w"
              rename Fr _ L _ _ => F
              rename News _ L _ _ => N
              refine cutK (fun s' => ∃ tb nc, TrC s L P S t tq D AD gs ((CH, listOf #[.str (txt (bang neg ++ [l])) ta, .str (txt (hh :: mo)) tb] nc) :: [(AD, boundObj D), (D, listOf (List.toArray vs) nv), (77, tabObj ps')]) tn (pre.length + 1 + (bang neg).length + 2) (pre.length + 1 + B.length) CH s') (fun K hK => ?_) ?_
              · iterate 3 (walk_at "w")
                refine KXt.truthy (b := true) (by rw [txt_len]; simp; omega) (by rw [txt_len]; simp; rcases okm with rfl | ⟨mc, rfl, _⟩ <;> simp) fun k'' => ?_
                iterate 10 (walk_at "w")
                rename Fr _ L _ _ => F₂
                rename News _ L _ _ => N₂
                refine wpAny_list_append_plain (hsz := by rw [sizeLine_eq]; exact Nat.le_of_ble_eq_true rfl) ⟨_, N₂.get (.head _)⟩ fun h₅ hl₅ hs₅ => ?_
                obtain ⟨nc, e₅⟩ := hl₅
                have F₅ := F₂.change hs₅ (N₂ _ (.head _)).2.1 (N₂ _ (.head _)).2.2
                have hap : ∀ p ∈ [(AD, boundObj D), (D, listOf (List.toArray vs) nv), (77, tabObj ps')], p.1 ≠ CH := by
                  intro p hp
                  rcases List.mem_cons.mp hp with rfl | hp
                  · exact Nat.ne_of_lt l3.2.2
                  · rcases List.mem_cons.mp hp with rfl | hp
                    · exact Nat.ne_of_lt l3.1
                    · rw [List.mem_singleton.mp hp]; exact Nat.ne_of_lt l3.2.1
                have N₅ := N₂.setHead hap hs₅ e₅
                clear F₂ N₂
                walk_at "w"
                exact hK _ ⟨_, _, _, _, _, _, _, rfl, F₅, N₅, e1, e2, e3, e4, e5, e6, e7, e8, e9⟩
              clear F N e1 e2 e3 e4 e5 e6 e7 e8 e9
              rintro _ ⟨tb, nc, h, tk, m, ti, tj, rfl, F, N, e1, e2, e3, e4, e5, e6, e7, e8, e9⟩
              refine cutK (TrY s L P S t tq D AD gs ((if l ≤ hh then [bang neg ++ [l], hh :: mo] else [bang neg ++ mo]).map txt) [(AD, boundObj D), (D, listOf (List.toArray vs) nv), (77, tabObj ps')] tn (pre.length + 1 + (bang neg).length + 2) (pre.length + 1 + B.length) CH) (fun K hK => ?_) ?_
              rotate_left
              · clear F N e1 e2 e3 e4 e5 e6 e7 e8 e9
                rintro _ ⟨ys, nc, h, tk, m, ti, tj, rfl, hys, F, N, e1, e2, e3, e4, e5, e6, e7, e8, e9⟩
                iterate 7 (walk_at "w")
                refine wpAny_GeneratorExp_walksQ (cl := []) rfl rfl rfl (by decide) rfl rfl rfl (by show dp + 1 < _; omega) ?_ (by intro _; rfl)
                walk_at "w"
                have hCH := N.isList (.head _)
                refine wpAny_pyIter_list hCH ?_
                have F₁ := F.push { cls := .type "list_iterator", data := .fields #[.ref CH, .int 0 0] }
                have N₁ := N.push F { cls := .type "list_iterator", data := .fields #[.ref CH, .int 0 0] }
                refine ⟨T.nolimit.keeps F₁.keep, ?_⟩
                refine gx_code rfl (G'.c2.keeps F₁.keep) (N₁.get (.tail _ (.tail _ (.tail _ (.tail _ (.head _)))))) ht' fun cv h₃ tk₃ ps₃ hx₃ hP₃ hps₃ hsz₃ => ?_
                have lI : CH < h.objs.size ∧ AD < h.objs.size ∧ D < h.objs.size ∧ 77 < h.objs.size := ⟨Heap.lt_size (N.get (.head _)), Heap.lt_size (N.get (.tail _ (.head _))), Heap.lt_size (N.get (.tail _ (.tail _ (.head _)))), Heap.lt_size (N.get (.tail _ (.tail _ (.tail _ (.head _)))))⟩
                have h77n : (77 : Addr) ≠ L ∧ (hideAll s.heap [77]).get? 77 = none := (N _ (.tail _ (.tail _ (.tail _ (.head _))))).2
                have F₃ := fr_ext F₁ hx₃ h77n.1 h77n.2
                have N₃ := news_ext (pre := [(h.objs.size, { cls := .type "list_iterator", data := .fields #[.ref CH, .int 0 0] }), (CH, listOf (List.toArray ys) nc), (AD, boundObj D), (D, listOf (List.toArray vs) nv)]) N₁ hx₃ hP₃ (by
                  intro p hp
                  simp only [List.mem_cons, List.not_mem_nil, or_false] at hp
                  rcases hp with rfl | rfl | rfl | rfl
                  · exact Nat.ne_of_gt lI.2.2.2
                  · exact Nat.ne_of_gt l3.2.1
                  · exact Nat.ne_of_gt l2.2
                  · exact Nat.ne_of_gt l1)
                obtain ⟨bm, ob, b1, b2, b3, b4, b5, b6⟩ := T.bmain
                refine wpAny_builtinsFor (T.g.keeps F₃.keep) b1 b2 (F₃.keep _ _ b3) b4 b5 b6 ?_
                have hl3 : h₃.IsList CH ys.toArray := N₃.isList (.tail _ (.head _))
                have hi3 : h₃.IsListIter h.objs.size CH 0 := ⟨_, N₃.get (.head _), rfl, rfl⟩
                have hs3 : h.objs.size < h₃.objs.size := Heap.lt_size (N₃.get (.head _))
                have hc3 : CH < h₃.objs.size := Heap.lt_size (N₃.get (.tail _ (.head _)))
                obtain ⟨cs, hcs⟩ : ∃ cs, cs = (if l ≤ hh then [bang neg ++ [l], hh :: mo] else [bang neg ++ mo]) := ⟨_, rfl⟩
                rw [← hcs] at hys
                have hclean : ∀ c ∈ cs, 92 ∉ c ∧ 45 ∉ c := by
                  intro c hc
                  rw [hcs] at hc
                  rcases okm with rfl | ⟨mc, rfl, hmc1, hmc2⟩ <;> cases neg <;> (split at hc) <;> simp [bang] at hc <;> (try rcases hc with rfl | rfl) <;> (try subst hc) <;> simp <;> omega
                refine ⟨h.objs.size, [h.objs.size, CH], [h.objs.size], ys.length, fun i v => ys[i]? = some v, fun i hq => hq.IsListIter h.objs.size CH i ∧ hq.IsList CH ys.toArray, fun _ => true, fun i y => ∃ t, y = .str ((cs.map txt).getD i Str.empty) t, rfl, ?_, ?_, ?_, ?_, ?_, ?_, ?_⟩
                · intro A' hA
                  have W := Walks.list (prog := PR) (w := w) hA h.objs.size CH (Nat.ne_of_lt lI.1) ys.toArray
                  simpa using W
                · exact ⟨hi3, hl3⟩
                · intro b hb
                  rcases List.mem_cons.mp hb with rfl | hb
                  · exact hs3
                  · rw [List.mem_singleton.mp hb]; exact hc3
                · exact T.nolimit.keeps F₃.keep
                · intro hm
                  obtain ⟨_, hn, _⟩ := T.nolimit.keeps F.keep
                  rw [List.mem_singleton] at hm
                  exact absurd hn.lt (by rw [hm]; exact Nat.lt_irrefl _)
                · intro href hk
                  refine ⟨fun A' E' i v s₂ m₂ hA hv hn hm hkp => tests_nil ⟨rfl, ⟨_, _, rfl, fun _ _ e => e⟩⟩, fun A' E' i v s₂ m₂ hA hv _ hn hm hkp => ?_⟩
                  refine MethodCall_ ?_
                  refine MethodCall_ ?_
                  refine wpAny_Name (wpAny_loadName_local rfl rfl hn hm ?_) rfl
                  have hlt : i < ys.length := (List.getElem?_eq_some_iff.mp hv).1
                  obtain ⟨t0, hvt⟩ := strs_at hys hv
                  obtain ⟨c0, hc0, hcm⟩ := map_at (f := txt) (by rw [← strs_len hys]; exact hlt : i < (cs.map txt).length)
                  rw [hc0] at hvt
                  obtain ⟨n92, n45⟩ := hclean c0 hcm
                  subst hvt
                  refine getMethod_builtin (typeIs_str _ _ _) PySem.F.plainAttrs_str PySem.F.slot_str_replace PySem.F.type_str_replace (fun a e => nomatch e) ?_
                  iterate 6 walk1
                  refine' replace_none (c := 92) ?r1 n92 ?_
                  case r1 => decide
                  refine getMethod_builtin (typeIs_str _ _ _) PySem.F.plainAttrs_str PySem.F.slot_str_replace PySem.F.type_str_replace (fun a e => nomatch e) ?_
                  iterate 6 walk1
                  refine' replace_none (c := 45) ?r1 n45 ?_
                  case r1 => decide
                  exact ⟨⟨_, by rw [hc0]⟩, _, _, rfl, fun _ _ e => e⟩
                · intro a h₅ tk₅ gn hgb hag hsz₅ hk₅ W hat
                  have F₅ := F₃.keeps hk₅
                  have N₅ := N₃.grown hk₅
                  walk_at "w"
                  have W2 := W.in4_2
                  refine SC.joinGen W2 (fun i s' st => st.1.typeIs) hat ?_ (.head _) (fun i v hv => ?_) (fun s' lt hm hacc => ?_) ?_
                  · intro b hb
                    show b < h₅.objs.size
                    rw [hsz₅]
                    rcases List.mem_cons.mp hb with rfl | hb
                    · exact Nat.lt_succ_self _
                    · rcases List.mem_cons.mp hb with rfl | hb
                      · exact Nat.lt_succ_of_lt hag
                      · exact Nat.lt_succ_of_lt (Nat.lt_trans (List.mem_range.mp hb) hag)
                  · obtain ⟨j, _, t, e⟩ := hv; exact ⟨_, t, e⟩
                  · have hlt : lt.map (·.1) = cs.map txt := lt_map (strs_len hys).symm hacc
                    rw [hlt]
                    refine ⟨by rw [hcs]; exact join_ok _ _ _ hml, fun t' k => ?_⟩
                    rw [hcs, join_cs]
                    have hwr : ∀ b ∈ (h₃.objs.size :: [h.objs.size]), L < b := by
                      have := F.ns.lt
                      intro b hb
                      rcases List.mem_cons.mp hb with rfl | hb
                      · exact Nat.lt_trans this hs3
                      · rw [List.mem_singleton.mp hb]; exact this
                    have F₆ := Fr.moved F₅ hm hwr
                    have G₆ : AllBare s'.gens := AllBare.movedS (AllBare.push hgs hgb) hm
                    obtain ⟨h₆, gs₆, dr₆, tk₆, os₆⟩ := s'
                    have N₆ : News (hideAll s.heap [77]) L h₆ [(CH, listOf (List.toArray ys) nc), (AD, boundObj D), (D, listOf (List.toArray vs) nv), (77, tabObj ps₃)] := by
                      have N₅' : News (hideAll s.heap [77]) L h₅ [(CH, listOf (List.toArray ys) nc), (AD, boundObj D), (D, listOf (List.toArray vs) nv), (77, tabObj ps₃)] := fun p hp => N₅ p (.tail _ hp)
                      refine news_apart N₅' fun p hp o e => hm.heap p.1 o ?_ e
                      have hlt6 : p.1 < h.objs.size := by
                        simp only [List.mem_cons, List.not_mem_nil, or_false] at hp
                        rcases hp with rfl | rfl | rfl | rfl
                        · exact lI.1
                        · exact lI.2.1
                        · exact lI.2.2.1
                        · exact lI.2.2.2
                      intro hb
                      rcases List.mem_cons.mp hb with e' | hb
                      · rw [e'] at hlt6; exact absurd (Nat.lt_trans hlt6 hs3) (Nat.lt_irrefl _)
                      · rw [List.mem_singleton.mp hb] at hlt6; exact Nat.lt_irrefl _ hlt6
                    have hdr : dr₆ = s.drawn := hm.drawn
                    have hos : os₆ = s.os := hm.os
                    subst hdr; subst hos
                    iterate 3 (walk_at "w")
                    rename Fr _ L _ _ => F₇
                    rename News _ L _ _ => N₇
                    exact hK _ ⟨_, _, _, _, ps₃, _, _, _, rfl, G₆, hps₃, F₇, fun p hp => N₇ p (.tail _ hp), e1, e2, e3, e4, e5, e6, e7, e8, rfl⟩
                  · rw [passing_all ys.length ys.length 0 (by first | rfl | omega) (Nat.zero_le _), List.length_range', strs_len hys, List.length_map, hcs, sizeLine_eq]
                    split <;> exact Nat.le_of_ble_eq_true rfl
              iterate 29 (walk_at "w")
              iterate 6 (walk_at "w")
              rename Fr _ _ _ _ => F₁
              rename News _ _ _ _ => N₁
              refine item_listL (l := [.str (txt (bang neg ++ [l])) ta, .str (txt (hh :: mo)) tb]) (N₁.isList (.tail _ (.head _))) (by decide) (by decide) rfl ?_
              iterate 3 (walk_at "w")
              refine' item_m1 (bang neg).length ?h1 ?h2 ?_
              case h1 => simp
              case h2 => rw [List.getElem?_append_right (Nat.le_refl _), Nat.sub_self]; rfl
              iterate 4 (walk_at "w")
              rename News _ _ _ _ => N₁
              refine item_listL (l := [.str (txt (bang neg ++ [l])) ta, .str (txt (hh :: mo)) tb]) (N₁.isList (.tail _ (.head _))) (by decide) (by decide) rfl ?_
              iterate 4 (walk_at "w")
              split
              · rename decide _ = true => hlt
                have hlt' : hh < l := by rw [show decide ((txt [hh]).cps.toList < (txt [l]).cps.toList) = decide (hh < l) from sgl_lt hh l] at hlt; exact of_decide_eq_true hlt
                iterate 10 (walk_at "w")
                rename Fr _ _ _ _ => F₁
                rename News _ _ _ _ => N₁
                refine item_listL (l := [.str (txt (bang neg ++ [l])) ta, .str (txt (hh :: mo)) tb]) (N₁.isList (.tail _ (.head _))) (by decide) (by decide) rfl ?_
                iterate 7 (walk_at "w")
                refine' cut_ns (bang neg) (bang neg).length ?cF ?cN ?cb ?cl ?ce ?cz ?_
                case cF => exact F₁
                case cN => exact N₁
                case cb => simp [clipI]; exact clip_m1
                case cl => simp
                case ce => simp
                case cz => simp; omega
                intro h' t' k' F₂ N₂
                clear F₁ N₁
                iterate 4 (walk_at "w")
                refine item_listL (l := [.str (txt (bang neg ++ [l])) ta, .str (txt (hh :: mo)) tb]) (N₂.isList (.tail _ (.head _))) (by decide) (by decide) rfl ?_
                iterate 5 (walk_at "w")
                refine' cut_sn mo 1 ?cF ?cN ?ca ?cab ?ce ?cz ?_
                case cF => exact F₂
                case cN => exact N₂
                case ca => simp [clipI]; first | exact clip_1 | exact clip_2 | omega
                case cab => simp
                case ce => rfl
                case cz => simp; omega
                intro h' t' k' F₃ N₃
                clear F₂ N₂
                have lb1 : (txt (bang neg)).length ≤ 1 := by rw [txt_len]; cases neg <;> decide
                have lb2 : (txt mo).length ≤ 1 := by rw [txt_len]; exact hml
                iterate 6 (walk_at "w")
                have ebm : txt (bang neg) ++ txt mo = txt (bang neg ++ mo) := txt_app _ _
                rename Fr _ _ _ _ => F₁
                rename News _ _ _ _ => N₁
                have hap : ∀ p ∈ [(AD, boundObj D), (D, listOf (List.toArray vs) nv), (77, tabObj ps')], p.1 ≠ CH := by
                  intro p hp
                  rcases List.mem_cons.mp hp with rfl | hp
                  · exact Nat.ne_of_lt l3.2.2
                  · rcases List.mem_cons.mp hp with rfl | hp
                    · exact Nat.ne_of_lt l3.1
                    · rw [List.mem_singleton.mp hp]; exact Nat.ne_of_lt l3.2.1
                refine' ki_set (its := #[.str (txt (bang neg ++ [l])) ta, .str (txt (hh :: mo)) tb]) F₁ N₁ ?u1 ?u2 ?u3 (.tail (Nat.ne_of_gt ?u5) (.head hap)) ?_
                case u1 => decide
                case u2 => decide
                case u3 => exact rfl
                case u5 => dsimp only; omega
                intro h₆ F₆ N₆
                rw [ebm] at N₆
                clear F₁ N₁
                iterate 6 (walk_at "w")
                refine' ki_del (k := 1) F₆ N₆ ?u1 ?u2 ?u3 (.tail (Nat.ne_of_gt ?u5) (.head hap)) ?u4 ?_
                case u1 => decide
                case u2 => exact rfl
                case u3 => exact rfl
                case u4 => rw [sizeLine_eq]; exact Nat.le_of_ble_eq_true rfl
                case u5 => dsimp only; omega
                intro h₇ F₇ N₇
                clear F₆ N₆
                iterate 6 (walk_at "w")
                rename Fr _ _ _ _ => F₁
                rename News _ _ _ _ => N₁
                exact hK _ ⟨_, _, _, _, _, _, _, rfl, by rw [if_neg (by omega)]; exact .cons _ _ .nil, F₁, N₁, e1, e2, e3, e4, e5, e6, e7, e8, e9⟩
              · rename ¬ decide _ = true => hlt
                have hlt' : l ≤ hh := by rw [show decide ((txt [hh]).cps.toList < (txt [l]).cps.toList) = decide (hh < l) from sgl_lt hh l] at hlt; simpa using hlt
                iterate 5 (walk_at "w")
                rename Fr _ _ _ _ => F₁
                rename News _ _ _ _ => N₁
                exact hK _ ⟨_, _, _, _, _, _, _, rfl, by rw [if_pos hlt']; exact .cons _ _ (.cons _ _ .nil), F₁, N₁, e1, e2, e3, e4, e5, e6, e7, e8, e9⟩
            refine whl_start 5 ?_
            refine whl_turn (by passes_own) ?_
            iterate 17 (walk_at "w")
            refine find4 (c := 45) rfl lit_d (by omega) ((pre.length + 1 + (bang neg).length + 1 : Nat) : Int) (by
              rw [occ_here (by rw [txt_len, List.length_singleton]; omega) (sub_at (by
                rw [show pre.length + 1 + (bang neg).length + 1 = pre.length + 1 + ((bang neg).length + 1) by omega]
                exact hPn _ (by rw [hB, List.getElem?_append_right (by omega), Nat.add_sub_cancel_left]; rfl)))]) ?_
            iterate 9 (walk_at "w")
            rw [if_neg (by simp; omega)]
            iterate 17 (walk_at "w")
            rename Fr _ L _ _ => F₁
            rename News _ L _ _ => N₁
            refine' cut_ss (bang neg ++ [l]) (pre.length + 1) (pre.length + 1 + (bang neg).length + 1) ?cF ?cN ?ca ?cb ?cl ?cab ?ce ?cz ?_
            case cF => exact F₁
            case cN => exact N₁
            case ca => exact clip_nat (by first | rfl | omega) hB1
            case cb => exact clip_nat (by first | rfl | omega) (by omega)
            case cl => omega
            case cab => omega
            case ce => exact mid_cut (a := pre ++ [91]) (c := 45 :: hh :: (mo ++ 93 :: rest)) (by rw [hPB, hB]; simp) (by simp) (by simp; omega)
            case cz => omega
            intro h' t' k' F₂ N₂
            clear F₁ N₁
            walk_at "w"
            have hap : ∀ p ∈ [(AD, boundObj D), (D, listOf (List.toArray vs) nv), (77, tabObj ps')], p.1 ≠ CH := by
              intro p hp
              rcases List.mem_cons.mp hp with rfl | hp
              · exact Nat.ne_of_lt l3.2.2
              · rcases List.mem_cons.mp hp with rfl | hp
                · exact Nat.ne_of_lt l3.1
                · rw [List.mem_singleton.mp hp]; exact Nat.ne_of_lt l3.2.1
            refine wpAny_list_append_plain (hsz := by rw [sizeLine_eq]; decide) ⟨_, N₂.get (.head _)⟩ fun h₅ hl₅ hs₅ => ?_
            obtain ⟨nc, e₅⟩ := hl₅
            have F₅ := F₂.change hs₅ (N₂ _ (.head _)).2.1 (N₂ _ (.head _)).2.2
            have N₅ := N₂.setHead hap hs₅ e₅
            rw [show (#[] : Array Value).push (.str (txt (bang neg ++ [l])) t') = #[.str (txt (bang neg ++ [l])) t'] from rfl] at N₅
            clear F₂ N₂
            iterate 35 (walk_at "w")
            refine find4 (k := pre.length + 1 + (bang neg).length + 1 + 3) (c := 45) (by omega) lit_d (by omega) (-1) (by
              rw [occ_empty (by rw [txt_len]; decide) (by
                have : B.length ≤ (bang neg).length + 4 := by rw [hB]; rcases okm with rfl | ⟨mc, rfl, _⟩ <;> simp
                omega)]) ?_
            iterate 14 (walk_at "w")
            rename Fr _ L _ _ => F₁
            rename News _ L _ _ => N₁
            exact hK _ ⟨_, _, _, _, _, _, _, rfl, F₁, N₁, e1, e2, e3, e4, e5, rfl, e7, e8, e9⟩
          clear F N e1 e2 e3 e4 e5 e6 e7 e8 e9 hgs ht'
          rintro _ ⟨h, gs, tk, m, ps₃, ti, tj, tb, rfl, hgs, ht', F, N, e1, e2, e3, e4, e5, e6, e7, e8, e9⟩
          iterate 4 (walk_at "w")
          have e63 : h.get? 63 = some pat63 := F.keep _ _ (X 63 pat63 rfl)
          refine getMethod_builtin ⟨_, e63, rfl⟩ plainAttrs_re slot_resub type_resub (fun a e => by cases e; exact ⟨_, e63, rfl⟩) ?_
          iterate 2 (walk_at "w")
          refine kla_eval rfl ?_
          have h77n : (77 : Addr) ≠ L ∧ (hideAll s.heap [77]).get? 77 = none := (N _ (.tail _ (.tail _ (.head _)))).2
          refine lam_made (mg := mg) rfl rfl (T.keeps F.keep) rfl (G'.c2.keeps F.keep) (N.get (.tail _ (.tail _ (.head _)))) ht' fun lf cv ctv h₃ tk₃ ps₄ hx₃ hf₃ hsz₃ hP₃ hps₃ _ => ?_
          have F₃ := fr_ext F hx₃ h77n.1 h77n.2
          have N₃ := news_ext (pre := [(AD, boundObj D), (D, listOf (List.toArray vs) nv)]) N hx₃ hP₃ (by
            intro p hp
            simp only [List.mem_cons, List.not_mem_nil, or_false] at hp
            rcases hp with rfl | rfl
            · exact Nat.ne_of_gt l2.2
            · exact Nat.ne_of_gt l1)
          clear F N e63
          iterate 3 (walk_at "w")
          refine' re_sub (F₃.keep _ _ (X 63 pat63 rfl)) (F₃.keep _ _ (X 62 obj62 rfl)) ?hff ?hfc ?clean ?lenz fun h' t' kz hk => ?_
          case hff => exact hf₃
          case hfc => rfl
          case clean => exact left_clean okl okl' okh okh' okm
          case lenz => exact Nat.le_trans (left_len2 hml) (by decide)
          have F := F₃.keeps hk
          have N := N₃.grown hk
          clear F₃ N₃
          iterate 14 (walk_at "w")
          have hpk2 : pre.length + 1 + B.length + 1 = ((its.take (k + 1)).map Item.text).flatten.length := by rw [← hpk, set_text_len, hB]; omega
          rename Fr _ L _ _ => F₁
          rename News _ L _ _ => N₁
          have F := F₁
          have N : News (hideAll s.heap [77]) L _ [(AD, boundObj D), (D, listOf (List.toArray vs) nv), (77, tabObj ps₄)] := N₁
          clear F₁ N₁
          obtain ⟨lq, hleft⟩ : ∃ q, left l hh mo = q := ⟨_, rfl⟩
          cases lq with
          | nil =>
            cases neg with
            | false =>
              have hb : bang false ++ left l hh mo = [] := by rw [hleft]; rfl
              rw [hb] at F ⊢
              refine KXt.truthy (b := false) rfl (by decide) fun k'' => ?_
              iterate 5 (walk_at "w")
              have hx : Str.ofString "(?!)" = txt (Item.set false l hh mo).part := by rw [part_e0 hleft]; exact lit_n
              refine callWith_bd (a := D) ?_
              iterate 3 (walk_at "w")
              rename Fr _ L _ _ => F₄
              rename News _ L _ _ => N₄
              refine ⟨N₄.get (.head _), ?_⟩
              refine' call_bound ?b1 ?b2 hvz ?_
              case b1 => exact N₄.get (.tail _ (.head _))
              case b2 => exact N₄.get (.head _)
              intro h₅ n₅ e₅ hs₅
              have F₅ := F₄.change hs₅ (N₄ _ (.tail _ (.head _))).2.1 (N₄ _ (.tail _ (.head _))).2.2
              have N₅ := news_put N₄ hs₅ e₅ (Nat.ne_of_gt l2.1) (Nat.ne_of_lt l1)
              rw [List.push_toArray, hx] at N₅
              clear F₄ N₄
              iterate 6 (walk_at "w")
              exact hK _ ⟨P.length - (pre.length + 1 + B.length + 1), hdn, _, _, _, _, _, _, _, pre.length + 1 + B.length + 1, rfl, hgs, F₅, N₅, hps₃, e1, e2, e3, e4, e5, ⟨_, rfl⟩, ⟨_, e7⟩, rfl, .inl ⟨k + 1, hk', hpk2, by rw [htake, List.map_append]; exact hvs.append' (.cons _ _ .nil)⟩⟩
            | true =>
              have hb : bang true ++ left l hh mo = [33] := by rw [hleft]; rfl
              rw [hb] at F ⊢
              refine KXt.truthy (b := true) rfl (by decide) fun k'' => ?_
              iterate 8 (walk_at "w")
              rw [if_pos (by rw [lit_b]; exact beq_self_eq_true _)]
              iterate 5 (walk_at "w")
              have hx : Str.ofString "." = txt (Item.set true l hh mo).part := by rw [part_e1 hleft]; exact lit_p
              refine callWith_bd (a := D) ?_
              iterate 3 (walk_at "w")
              rename Fr _ L _ _ => F₄
              rename News _ L _ _ => N₄
              refine ⟨N₄.get (.head _), ?_⟩
              refine' call_bound ?b1 ?b2 hvz ?_
              case b1 => exact N₄.get (.tail _ (.head _))
              case b2 => exact N₄.get (.head _)
              intro h₅ n₅ e₅ hs₅
              have F₅ := F₄.change hs₅ (N₄ _ (.tail _ (.head _))).2.1 (N₄ _ (.tail _ (.head _))).2.2
              have N₅ := news_put N₄ hs₅ e₅ (Nat.ne_of_gt l2.1) (Nat.ne_of_lt l1)
              rw [List.push_toArray, hx] at N₅
              clear F₄ N₄
              iterate 7 (walk_at "w")
              exact hK _ ⟨P.length - (pre.length + 1 + B.length + 1), hdn, _, _, _, _, _, _, _, pre.length + 1 + B.length + 1, rfl, hgs, F₅, N₅, hps₃, e1, e2, e3, e4, e5, ⟨_, rfl⟩, ⟨_, e7⟩, rfl, .inl ⟨k + 1, hk', hpk2, by rw [htake, List.map_append]; exact hvs.append' (.cons _ _ .nil)⟩⟩
          | cons c0 r0 =>
            obtain ⟨hc0, hc0'⟩ := left_first okl okl' okm hleft
            have hr0 : r0.length ≤ 4 := by have := left_len2 (neg := neg) (l := l) (hh := hh) hml; rw [hleft] at this; simp at this; omega
            cases neg with
            | false =>
              have hb : bang false ++ left l hh mo = c0 :: r0 := by rw [hleft]; rfl
              rw [hb] at F ⊢
              refine KXt.truthy (b := true) (by rw [txt_len]; simp; omega) (by rw [txt_len]; simp; omega) fun k'' => ?_
              iterate 8 (walk_at "w")
              rw [if_neg (by rw [lit_b, txt_beq, decide_eq_false (by intro q; cases q; omega)]; decide)]
              iterate 11 (walk_at "w")
              rw [if_neg (ne1 lit_b (by omega))]
              iterate 17 (walk_at "w")
              rw [if_neg (by
                rw [lit_h, lit_o]
                simp only [List.any_cons, List.any_nil, txt_beq]
                rw [decide_eq_false (by intro q; cases q; omega), decide_eq_false (by intro q; cases q; omega)]; decide)]
              rename Fr _ L _ _ => F₁
              rename News _ L _ _ => N₁
              have N₂ : News (hideAll s.heap [77]) L _ [(AD, boundObj D), (D, listOf (List.toArray vs) nv), (77, tabObj ps₄)] := fun p hp => N₁ p (.tail _ hp)
              clear N₁
              have lb2 : (txt (c0 :: r0)).length ≤ 5 := by rw [txt_len]; simp; omega
              iterate 6 (walk_at "w")
              have hx : Str.empty ++ Str.ofString "[" ++ txt (c0 :: r0) ++ Str.ofString "]" = txt (Item.set false l hh mo).part := by rw [fjoin, part_c0 hleft]
              refine callWith_bd (a := D) ?_
              iterate 15 (walk_at "w")
              rename Fr _ L _ _ => F₄
              rename News _ L _ _ => N₄
              refine ⟨N₄.get (.head _), ?_⟩
              refine' call_bound ?b1 ?b2 hvz ?_
              case b1 => exact N₄.get (.tail _ (.head _))
              case b2 => exact N₄.get (.head _)
              intro h₅ n₅ e₅ hs₅
              have F₅ := F₄.change hs₅ (N₄ _ (.tail _ (.head _))).2.1 (N₄ _ (.tail _ (.head _))).2.2
              have N₅ := news_put N₄ hs₅ e₅ (Nat.ne_of_gt l2.1) (Nat.ne_of_lt l1)
              rw [List.push_toArray, hx] at N₅
              clear F₄ N₄
              iterate 7 (walk_at "w")
              exact hK _ ⟨P.length - (pre.length + 1 + B.length + 1), hdn, _, _, _, _, _, _, _, pre.length + 1 + B.length + 1, rfl, hgs, F₅, N₅, hps₃, e1, e2, e3, e4, e5, ⟨_, rfl⟩, ⟨_, e7⟩, rfl, .inl ⟨k + 1, hk', hpk2, by rw [htake, List.map_append]; exact hvs.append' (.cons _ _ .nil)⟩⟩
            | true =>
              have hb : bang true ++ left l hh mo = 33 :: c0 :: r0 := by rw [hleft]; rfl
              rw [hb] at F ⊢
              refine KXt.truthy (b := true) (by rw [txt_len]; simp; omega) (by rw [txt_len]; simp; omega) fun k'' => ?_
              iterate 8 (walk_at "w")
              rw [if_neg (by rw [lit_b, txt_beq, decide_eq_false (by intro q; cases q)]; decide)]
              iterate 24 (walk_at "w")
              rename Fr _ L _ _ => F₁
              rename News _ L _ _ => N₁
              refine' cut_sn (c0 :: r0) 1 ?cF ?cN ?ca ?cab ?ce ?cz ?_
              case cF => exact F₁
              case cN => exact N₁
              case ca => simp [clipI]; first | exact clip_1 | exact clip_2 | omega
              case cab => simp
              case ce => rfl
              case cz => simp; omega
              intro h' t' k' F₂ N₂
              clear F₁ N₁
              have lb2 : (txt (c0 :: r0)).length ≤ 5 := by rw [txt_len]; simp; omega
              iterate 7 (walk_at "w")
              have eh : Str.ofString "^" ++ txt (c0 :: r0) = txt (94 :: c0 :: r0) := by rw [lit_h, txt_app]; rfl
              rename Fr _ L _ _ => F₁
              rename News _ L _ _ => N₁
              rw [eh] at F₁
              have lb3 : (txt (94 :: c0 :: r0)).length ≤ 6 := by rw [txt_len]; simp; omega
              have hx : Str.empty ++ Str.ofString "[" ++ txt (94 :: c0 :: r0) ++ Str.ofString "]" = txt (Item.set true l hh mo).part := by rw [fjoin, part_c1 hleft]; rfl
              refine callWith_bd (a := D) ?_
              iterate 15 (walk_at "w")
              rename Fr _ L _ _ => F₄
              rename News _ L _ _ => N₄
              refine ⟨N₄.get (.head _), ?_⟩
              refine' call_bound ?b1 ?b2 hvz ?_
              case b1 => exact N₄.get (.tail _ (.head _))
              case b2 => exact N₄.get (.head _)
              intro h₅ n₅ e₅ hs₅
              have F₅ := F₄.change hs₅ (N₄ _ (.tail _ (.head _))).2.1 (N₄ _ (.tail _ (.head _))).2.2
              have N₅ := news_put N₄ hs₅ e₅ (Nat.ne_of_gt l2.1) (Nat.ne_of_lt l1)
              rw [List.push_toArray, hx] at N₅
              clear F₄ N₄
              iterate 7 (walk_at "w")
              exact hK _ ⟨P.length - (pre.length + 1 + B.length + 1), hdn, _, _, _, _, _, _, _, pre.length + 1 + B.length + 1, rfl, hgs, F₅, N₅, hps₃, e1, e2, e3, e4, e5, ⟨_, rfl⟩, ⟨_, e7⟩, rfl, .inl ⟨k + 1, hk', hpk2, by rw [htake, List.map_append]; exact hvs.append' (.cons _ _ .nil)⟩⟩
      · rw [hpre] at hPe
        have hlt : pre.length < P.length := by rw [hPe]; simp
        rw [if_pos (by simp; exact_mod_cast hlt)]
        iterate 5 (walk_at "w")
        refine' item_n pre.length ?h1 ?h2 ?h3 ?_
        case h1 => rfl
        case h2 => rw [hPe]; exact at_pre 0
        case h3 => omega
        iterate 23 (walk_at "w")
        rename Fr _ L _ _ => F₄
        rename News _ L _ _ => N₄
        have hvl : vs.length = its.length := by have := strs_len hvs; simpa using this
        have hvz : vs.toArray.size ≤ 1000 := by rw [List.size_toArray]; omega
        refine wpAny_truthy_list (N₄.isList (.tail _ (.head _))) (by omega) ?_
        have he : vs.toArray.isEmpty = false := by cases vs with | nil => simp at hvl; omega | cons a b => rfl
        rw [he, if_neg (by decide)]
        iterate 7 (walk_at "w")
        rename Fr _ L _ _ => F₄
        rename News _ L _ _ => N₄
        refine item_strs_neg (N₄.isList (.tail _ (.head _))) hvs (by decide) (by simp; omega) (by decide) fun t' => ?_
        walk_at "w"
        refine isnot_str_ref ?_
        iterate 8 (walk_at "w")
        refine callWith_bd (a := D) ?_
        iterate 3 (walk_at "w")
        rename Fr _ L _ _ => F₄
        rename News _ L _ _ => N₄
        refine ⟨N₄.get (.head _), ?_⟩
        refine' call_bound ?b1 ?b2 hvz ?_
        case b1 => exact N₄.get (.tail _ (.head _))
        case b2 => exact N₄.get (.head _)
        intro h₅ n₅ e₅ hs₅
        have F₅ := F₄.change hs₅ (N₄ _ (.tail _ (.head _))).2.1 (N₄ _ (.tail _ (.head _))).2.2
        have N₅ := news_put N₄ hs₅ e₅ (Nat.ne_of_gt l2.1) (Nat.ne_of_lt l1)
        rw [List.push_toArray] at N₅
        clear F₄ N₄
        iterate 3 (walk_at "w")
        exact hK _ ⟨P.length - (pre.length + 1), by omega, _, _, _, _, _, _, _, pre.length + 1, rfl, hgs, F₅, N₅, ht', e1, e2, e3, e4, e5, ⟨_, rfl⟩, ⟨_, e7⟩, rfl, .inr ⟨by first | rfl | trivial, by rw [hPe]; simp, vs, rfl, by rw [List.take_length] at hvs; exact hvs⟩⟩
      · rw [hpre] at hPe
        rw [if_neg (by rw [hPe]; simp)]
        refine hK0 _ ⟨_, _, _, _, _, _, _, rfl, hgs, F, N, ht', e4, ⟨_, hPe ▸ e6⟩, ⟨_, e7⟩, ?_⟩
        rw [if_neg (by decide)]
        rw [List.take_length] at hvs
        exact hvs
    · rw [if_neg (by simp)]
      exact hK0 _ ⟨_, _, _, _, _, _, _, rfl, hgs, F, N, ht', e4, ⟨_, e6⟩, ⟨_, e7⟩, by rw [if_pos rfl]; exact ⟨_, rfl, hvs⟩⟩
  clear F₁ N₁
  rintro _ ⟨h, gs, tk, m, vs, nv, ps', rfl, hgs, F, N, ht', e4, ⟨ti, e6⟩, ⟨tn, e7⟩, hvs⟩
  iterate 7 (walk_at "w")
  rw [if_pos (beq_self_eq_true _)]
  dsimp only
  iterate 3 (walk_at "w")
  have hD := N (D, listOf (List.toArray vs) nv) (.tail _ (.head _))
  refine ⟨h, gs, _, vs, nv, ps', D, rfl, rfl, hgs, fun b o hb e => F.keep b o (hide_keep e hb), N.get (.tail _ (.tail _ (.head _))), ht', ?_, hD.1, hvs⟩
  cases e : s.heap.get? D with
  | none => rfl
  | some o => have := hide_keep (a := 77) e (Nat.ne_of_gt l1); rw [hD.2.2] at this; cases this
end Mine

end

section
open PySem PySem.W PyProof.Rows PySem.Calls
namespace Mine
/-- a pattern's items against the letters that are left -/
def mt (st : Bool) : List Item → List Nat → Bool
  | [], ys => st || ys.isEmpty
  | _ :: _, [] => false
  | it :: r, c :: ys => it.has c && mt st r ys
/-- the names of a stretch that go on as the pattern does -/
def fnd (its : List Item) (st : Bool) (xs : List Str) (k lo hi : Nat) : List Str := ((xs.drop lo).take (hi - lo)).filter fun y => mt st (its.drop k) (y.cps.toList.drop k)
def Sorted (xs : List Str) : Prop := ∀ i j, i ≤ j → j < xs.length → ¬ (xs.getD j Str.empty).cps.toList < (xs.getD i Str.empty).cps.toList
/-- where the two lambdas of _law_found stand -/
def lamPos : Bool → Pos
  | true => ⟨156, 62, 156, 82⟩
  | false => ⟨157, 62, 157, 82⟩
abbrev lamQual : Str := Str.ofString "_law_found.<locals>.<lambda>"
/-- the codes of the lambdas that a table holds -/
def LamTab (h : Heap) (ps : Array Value) : Prop := TriplesOk ps.toList ∧ ∀ b cv, codeAmong (lamPos b) ps.toList = some cv → h.CodeRec cv lamQual
theorem fnd_nil {its : List Item} {st : Bool} {xs : List Str} {k lo hi : Nat} (h : hi ≤ lo) : fnd its st xs k lo hi = [] := by
  unfold fnd; rw [show hi - lo = 0 by omega]; rfl
theorem triples_no_str {l : List Value} (h : TriplesOk l) {q : Str} {t : Tok} : l[1]? ≠ some (.str q t) := by
  fun_induction TriplesOk l with
  | case1 => intro e; cases e
  | case2 a t b u x rest ih => intro e; cases e
  | case3 l h1 h2 => exact h.elim
theorem LamTab.keeps {h h' : Heap} {ps : Array Value} {P : Addr} (x : LamTab h ps) (e : h.get? P = some (tabObj ps)) (k : ∀ b o, b ≠ P → h.get? b = some o → h'.get? b = some o) : LamTab h' ps :=
  ⟨x.1, fun b cv hc => by
    obtain ⟨c, o, vs, t, rfl, ho, hd, hv⟩ := x.2 b cv hc
    refine ⟨c, o, vs, t, rfl, k c o (fun q => ?_) ho, hd, hv⟩
    rw [q, e] at ho
    cases ho
    cases hd
    exact triples_no_str x.1 (by simpa using hv)⟩
/-- a table with one more lambda in it -/
theorem LamTab.grow {h h' : Heap} {ps ps' : Array Value} {P : Addr} {b : Bool} {cv : Value} (x : LamTab h ps) (e : h.get? P = some (tabObj ps)) (k : Heap.ExtBut P h h') (ht : TriplesOk ps'.toList)
    (g : (ps' = ps ∧ codeAmong (lamPos b) ps.toList = some cv) ∨ (ps' = ps ++ #[rawInt (lamPos b).line, rawInt (lamPos b).col, cv] ∧ h'.CodeRec cv lamQual)) :
    LamTab h' ps' ∧ h'.CodeRec cv lamQual := by
  have x' := x.keeps e k
  rcases g with ⟨rfl, hc⟩ | ⟨rfl, hr⟩
  · exact ⟨x', x'.2 _ _ hc⟩
  · refine ⟨⟨ht, fun pos' cv' hc => ?_⟩, hr⟩
    rw [Array.toList_append] at hc
    rcases among_app _ x.1 hc with hc | rfl
    · exact x'.2 _ _ hc
    · exact hr
theorem is_str_ref {M : Model} {A : Around} {E : Value → Shared → Prop} {s : Shared} {x : Str} {t : Tok} {S : Addr} {Q : Value → Shared → Prop} (h : Q (.bool false) s) : wpAny M A (compareOp .Is (.str x t) (.ref S)) Q E s := wpAny_pure h
theorem is_ref_same {M : Model} {A : Around} {E : Value → Shared → Prop} {s : Shared} {S : Addr} {Q : Value → Shared → Prop} (h : Q (.bool true) s) : wpAny M A (compareOp .Is (.ref S) (.ref S)) Q E s := by
  show wpAny M A (isSame (.ref S) (.ref S) >>= fun b => pure (.bool b)) Q E s
  exact wpAny_bind (wpAny_isSame_ref_self (wpAny_pure h))
theorem pick_run2 {vs : List Value} {lo hi : Nat} (h : lo ≤ hi) (h2 : hi ≤ vs.length) : slicePick vs.toArray (some (lo : Int)) (some (hi : Int)) none = ((vs.drop lo).take (hi - lo)).toArray := by
  refine kmk_pick_nat (a := lo) (b := hi) _ ?_
  simp only [sliceBounds, Option.getD_none, show (1 : Int) > 0 by decide, if_true, if_neg (show ¬ ((lo : Int) < 0) by omega), if_neg (show ¬ ((hi : Int) < 0) by omega), List.size_toArray]
  congr 1
  · omega
  · congr 1; omega
theorem fnd_star {its : List Item} {xs : List Str} {k lo hi : Nat} (h : k = its.length) : fnd its true xs k lo hi = (xs.drop lo).take (hi - lo) := by
  unfold fnd
  rw [List.filter_eq_self]
  intro y _
  rw [h, List.drop_length]; rfl
end Mine

end

section
open PySem PySem.W PyProof.Rows PySem.Calls
namespace Mine
theorem lt_pre (p a b : List Nat) : (p ++ a < p ++ b) ↔ a < b := by
  induction p with
  | nil => rfl
  | cons x r ih =>
    rw [List.cons_append, List.cons_append, List.cons_lt_cons_iff]
    simp [ih]
theorem not_lt_nil (a : List Nat) : ¬ a < [] := fun h => nomatch h
theorem nil_lt_cons (c : Nat) (r : List Nat) : [] < c :: r := List.Lex.nil
theorem cons_lt {a b : Nat} {r s : List Nat} (h : a < b) : a :: r < b :: s := List.Lex.rel h
theorem not_lt_trans {a b c : List Nat} (h1 : ¬ b < a) (h2 : ¬ c < b) : ¬ c < a := by
  rw [List.not_lt] at *
  exact List.le_trans h1 h2
theorem txt_cps (l : List Nat) : (txt l).cps.toList = l := rfl
theorem split_at {xs : List Str} {lo hi start : Nat} {p : List Nat} (hs : Sorted xs) (hhi : hi ≤ xs.length) (hpre : ∀ i, lo ≤ i → i < hi → ∃ r, xs.getD i Str.empty = txt (p ++ r)) (h : RightAt xs (txt p) lo hi start) :
    lo ≤ start ∧ start ≤ hi ∧ (∀ i, lo ≤ i → i < start → xs.getD i Str.empty = txt p) ∧ (∀ i, start ≤ i → i < hi → ∃ c r, xs.getD i Str.empty = txt (p ++ c :: r)) := by
  obtain ⟨h1, h2, h3, h4⟩ := h
  refine ⟨h1, h2, fun i hi1 hi2 => ?_, fun i hi1 hi2 => ?_⟩
  · rcases h3 with h3 | h3
    · omega
    obtain ⟨r, hr⟩ := hpre i hi1 (by omega)
    have hle := hs i (start - 1) (by omega) (by omega)
    have hn : ¬ p < (xs.getD (start - 1) Str.empty).cps.toList := by
      have := of_decide_eq_false h3
      exact this
    have := not_lt_trans hle hn
    rw [hr, txt_cps] at this
    cases r with
    | nil => rw [hr, List.append_nil]
    | cons c r =>
      refine absurd ?_ this
      have := (lt_pre p [] (c :: r)).mpr (nil_lt_cons c r)
      rwa [List.append_nil] at this
  · rcases h4 with h4 | h4
    · omega
    obtain ⟨r, hr⟩ := hpre i (by omega) hi2
    have hle := hs start i hi1 (by omega)
    have hn : p < (xs.getD start Str.empty).cps.toList := of_decide_eq_true h4
    cases r with
    | nil =>
      rw [hr, txt_cps, List.append_nil] at hle
      exact absurd hn hle
    | cons c r => exact ⟨c, r, hr⟩
def seg (xs : List Str) (lo hi : Nat) : List Str := (xs.drop lo).take (hi - lo)
theorem seg_split (xs : List Str) {lo m hi : Nat} (h1 : lo ≤ m) (h2 : m ≤ hi) : seg xs lo hi = seg xs lo m ++ seg xs m hi := by
  unfold seg
  rw [show hi - lo = (m - lo) + (hi - m) by omega, List.take_add, List.drop_drop, show lo + (m - lo) = m by omega]
theorem seg_mem {xs : List Str} {lo hi : Nat} {y : Str} (h : y ∈ seg xs lo hi) (hhi : hi ≤ xs.length) : ∃ i, lo ≤ i ∧ i < hi ∧ y = xs.getD i Str.empty := by
  obtain ⟨j, hj, e⟩ := List.getElem_of_mem h
  unfold seg at hj e
  rw [List.length_take, List.length_drop] at hj
  refine ⟨lo + j, by omega, by omega, ?_⟩
  rw [← e, List.getElem_take, List.getElem_drop]
  simp [List.getD, show lo + j < xs.length by omega]
theorem fnd_seg (its : List Item) (st : Bool) (xs : List Str) (k lo hi : Nat) : fnd its st xs k lo hi = (seg xs lo hi).filter fun y => mt st (its.drop k) (y.cps.toList.drop k) := rfl
theorem filter_none {l : List Str} {f : Str → Bool} (h : ∀ y ∈ l, f y = false) : l.filter f = [] := List.filter_eq_nil_iff.mpr fun y hy => by rw [h y hy]; exact Bool.false_ne_true
theorem drop_pre {p r : List Nat} {k : Nat} (h : p.length = k) : (txt (p ++ r)).cps.toList.drop k = r := by rw [txt_cps, ← h, List.drop_left]
/-- the pattern's end, without a star -/
theorem fnd_end {its : List Item} {xs : List Str} {k lo hi start : Nat} {p : List Nat} (hk : k = its.length) (hpl : p.length = k) (hs : Sorted xs) (hhi : hi ≤ xs.length) (hpre : ∀ i, lo ≤ i → i < hi → ∃ r, xs.getD i Str.empty = txt (p ++ r)) (h : RightAt xs (txt p) lo hi start) :
    fnd its false xs k lo hi = (xs.drop lo).take (start - lo) := by
  obtain ⟨h1, h2, h3, h4⟩ := split_at hs hhi hpre h
  rw [fnd_seg, seg_split xs h1 h2, List.filter_append, filter_none (l := seg xs start hi), List.append_nil, List.filter_eq_self.mpr]
  · rfl
  · intro y hy
    obtain ⟨i, i1, i2, rfl⟩ := seg_mem hy (by omega)
    rw [h3 i i1 i2, hk, List.drop_length, ← hk]
    have := drop_pre (p := p) (r := []) hpl
    rw [List.append_nil] at this
    rw [this]; rfl
  · intro y hy
    obtain ⟨i, i1, i2, rfl⟩ := seg_mem hy hhi
    obtain ⟨c, r, e⟩ := h4 i i1 i2
    rw [e, hk, List.drop_length, ← hk, drop_pre hpl]; rfl
/-- what is found after i of the signs -/
def cut (its : List Item) (st : Bool) (xs : List Str) (k lo hi i : Nat) : List Str := (seg xs lo hi).filter fun y => mt st (its.drop k) (y.cps.toList.drop k) && decide ((y.cps.toList.drop k).headD 0 < 97 + i)
theorem drop_item {its : List Item} {k : Nat} (hk : k < its.length) : its.drop k = its[k] :: its.drop (k + 1) := List.drop_eq_getElem_cons hk
theorem mt_nil {its : List Item} {st : Bool} {k : Nat} (hk : k < its.length) : mt st (its.drop k) [] = false := by rw [drop_item hk]; rfl
theorem letter_at {xs : List Str} (hlet : ∀ y ∈ xs, ∀ c ∈ y.cps.toList, IsLetter c) {i : Nat} (hi : i < xs.length) {p r : List Nat} {c : Nat} (e : xs.getD i Str.empty = txt (p ++ c :: r)) : IsLetter c := by
  refine hlet _ (List.getElem_mem hi) c ?_
  have : xs[i] = txt (p ++ c :: r) := by rw [← e]; simp [List.getD, hi]
  rw [this, txt_cps]; simp
section
variable {its : List Item} {st : Bool} {xs : List Str} {k lo hi : Nat} {p : List Nat} (hk : k < its.length) (hpl : p.length = k) (hhi : hi ≤ xs.length) (hlet : ∀ y ∈ xs, ∀ c ∈ y.cps.toList, IsLetter c) (hpre : ∀ i, lo ≤ i → i < hi → ∃ r, xs.getD i Str.empty = txt (p ++ r))
include hk hpl hhi hlet hpre
theorem cut_zero : cut its st xs k lo hi 0 = [] := by
  refine filter_none fun y hy => ?_
  obtain ⟨i, i1, i2, rfl⟩ := seg_mem hy hhi
  obtain ⟨r, e⟩ := hpre i i1 i2
  rw [e, drop_pre hpl]
  cases r with
  | nil => rw [mt_nil hk]; rfl
  | cons c r =>
    obtain ⟨hc, _⟩ := letter_at hlet (by omega) e
    rw [show decide ((c :: r).headD 0 < 97 + 0) = false from decide_eq_false (by simp; omega), Bool.and_false]
theorem cut_four : cut its st xs k lo hi 4 = fnd its st xs k lo hi := by
  rw [fnd_seg, cut]
  refine List.filter_congr fun y hy => ?_
  obtain ⟨i, i1, i2, rfl⟩ := seg_mem hy hhi
  obtain ⟨r, e⟩ := hpre i i1 i2
  rw [e, drop_pre hpl]
  cases r with
  | nil => rw [mt_nil hk]; rfl
  | cons c r =>
    obtain ⟨_, hc⟩ := letter_at hlet (by omega) e
    rw [show decide ((c :: r).headD 0 < 97 + 4) = true from decide_eq_true (by simp; omega), Bool.and_true]
theorem cut_skip {i : Nat} (hn : (its[k]'hk).has (97 + i) = false) : cut its st xs k lo hi (i + 1) = cut its st xs k lo hi i := by
  refine List.filter_congr fun y hy => ?_
  obtain ⟨j, i1, i2, rfl⟩ := seg_mem hy hhi
  obtain ⟨r, e⟩ := hpre j i1 i2
  rw [e, drop_pre hpl]
  cases r with
  | nil => rw [mt_nil hk]; rfl
  | cons c r =>
    by_cases q : c = 97 + i
    · subst q
      rw [drop_item hk, mt, hn]; rfl
    · congr 1
      simp; omega
theorem mono_at (hs : Sorted xs) {start : Nat} (h4 : ∀ i, start ≤ i → i < hi → ∃ c r, xs.getD i Str.empty = txt (p ++ c :: r)) {i j : Nat} (hi1 : start ≤ i) (hij : i ≤ j) (hj : j < hi) : (xs.getD i Str.empty).cps.toList.getD k 0 ≤ (xs.getD j Str.empty).cps.toList.getD k 0 := by
  obtain ⟨c, r, e⟩ := h4 i hi1 (by omega)
  obtain ⟨c', r', e'⟩ := h4 j (by omega) hj
  have := hs i j hij (by omega)
  rw [e, e', txt_cps, txt_cps, lt_pre] at this
  rw [e, e', txt_cps, txt_cps]
  have g : ∀ (c : Nat) (r : List Nat), (p ++ c :: r).getD k 0 = c := fun c r => by rw [← hpl]; simp
  rw [g, g]
  exact Nat.le_of_not_lt fun q => this (cons_lt q)
end
/-- the key of the lambdas -/
def keyAt (k : Nat) (y : Str) : Str := txt [y.cps.toList.getD k 0]
theorem ltK_at (xs : List Str) (k c i : Nat) : ltK xs (keyAt k) (txt [c]) i = decide (c < (xs.getD i Str.empty).cps.toList.getD k 0) := by
  unfold ltK keyAt
  rw [txt_cps, txt_cps]
  exact decide_eq_decide.mpr (by rw [lt1])
theorem gtK_at (xs : List Str) (k c i : Nat) : gtK xs (keyAt k) (txt [c]) i = decide ((xs.getD i Str.empty).cps.toList.getD k 0 < c) := by
  unfold gtK keyAt
  rw [txt_cps, txt_cps]
  exact decide_eq_decide.mpr (by rw [lt1])
section
variable {its : List Item} {st : Bool} {xs : List Str} {k lo hi : Nat} {p : List Nat} (hk : k < its.length) (hpl : p.length = k) (hhi : hi ≤ xs.length) (hlet : ∀ y ∈ xs, ∀ c ∈ y.cps.toList, IsLetter c) (hpre : ∀ i, lo ≤ i → i < hi → ∃ r, xs.getD i Str.empty = txt (p ++ r))
include hk hpl hhi hlet hpre
/-- the stretch of a sign -/
theorem cut_take (hs : Sorted xs) {start first last i : Nat} (hst : lo ≤ start ∧ start ≤ hi) (h3 : ∀ i, lo ≤ i → i < start → xs.getD i Str.empty = txt p) (h4 : ∀ i, start ≤ i → i < hi → ∃ c r, xs.getD i Str.empty = txt (p ++ c :: r)) (hn : (its[k]'hk).has (97 + i) = true)
    (f1 : start ≤ first) (f2 : first ≤ hi) (f3 : first = start ∨ gtK xs (keyAt k) (txt [97 + i]) (first - 1) = true) (f4 : first = hi ∨ gtK xs (keyAt k) (txt [97 + i]) first = false)
    (l1 : first ≤ last) (l2 : last ≤ hi) (l3 : last = first ∨ ltK xs (keyAt k) (txt [97 + i]) (last - 1) = false) (l4 : last = hi ∨ ltK xs (keyAt k) (txt [97 + i]) last = true) :
    cut its st xs k lo hi (i + 1) = cut its st xs k lo hi i ++ fnd its st xs (k + 1) first last ∧ (∀ j, first ≤ j → j < last → ∃ r, xs.getD j Str.empty = txt ((p ++ [97 + i]) ++ r)) := by
  rw [gtK_at] at f3 f4
  rw [ltK_at] at l3 l4
  have mono := fun {a b : Nat} => mono_at (its := its) (lo := lo) hk hpl hhi hlet hpre hs h4 (i := a) (j := b)
  have g : ∀ (c : Nat) (r : List Nat), (p ++ c :: r).getD k 0 = c := fun c r => by rw [← hpl]; simp
  have A : ∀ j, start ≤ j → j < first → (xs.getD j Str.empty).cps.toList.getD k 0 < 97 + i := fun j a b => by
    rcases f3 with f3 | f3
    · omega
    have := of_decide_eq_true f3
    have := mono (a := j) (b := first - 1) a (by omega) (by omega)
    omega
  have B : ∀ j, first ≤ j → j < last → (xs.getD j Str.empty).cps.toList.getD k 0 = 97 + i := fun j a b => by
    have h1 : 97 + i ≤ (xs.getD j Str.empty).cps.toList.getD k 0 := by
      rcases f4 with f4 | f4
      · omega
      have := of_decide_eq_false f4
      have := mono (a := first) (b := j) f1 a (by omega)
      omega
    have h2 : (xs.getD j Str.empty).cps.toList.getD k 0 ≤ 97 + i := by
      rcases l3 with l3 | l3
      · omega
      have := of_decide_eq_false l3
      have := mono (a := j) (b := last - 1) (by omega) (by omega) (by omega)
      omega
    omega
  have C : ∀ j, last ≤ j → j < hi → 97 + i < (xs.getD j Str.empty).cps.toList.getD k 0 := fun j a b => by
    rcases l4 with l4 | l4
    · omega
    have := of_decide_eq_true l4
    have := mono (a := last) (b := j) (by omega) a b
    omega
  refine ⟨?_, fun j a b => ?_⟩
  · have e1 : ∀ i', (seg xs lo start).filter (fun y => mt st (its.drop k) (y.cps.toList.drop k) && decide ((y.cps.toList.drop k).headD 0 < 97 + i')) = [] := fun i' => by
      refine filter_none fun y hy => ?_
      obtain ⟨j, a, b, rfl⟩ := seg_mem hy (by omega)
      rw [h3 j a b]
      have := drop_pre (p := p) (r := []) hpl
      rw [List.append_nil] at this
      rw [this, mt_nil hk]; rfl
    have e2 : (seg xs start first).filter (fun y => mt st (its.drop k) (y.cps.toList.drop k) && decide ((y.cps.toList.drop k).headD 0 < 97 + (i + 1))) = (seg xs start first).filter (fun y => mt st (its.drop k) (y.cps.toList.drop k) && decide ((y.cps.toList.drop k).headD 0 < 97 + i)) := by
      refine List.filter_congr fun y hy => ?_
      obtain ⟨j, a, b, rfl⟩ := seg_mem hy (by omega)
      have := A j a b
      obtain ⟨c, r, e⟩ := h4 j a (by omega)
      rw [e, txt_cps, g] at this
      rw [e, drop_pre hpl]
      congr 1
      simp; omega
    have e3 : (seg xs first last).filter (fun y => mt st (its.drop k) (y.cps.toList.drop k) && decide ((y.cps.toList.drop k).headD 0 < 97 + (i + 1))) = fnd its st xs (k + 1) first last := by
      rw [fnd_seg]
      refine List.filter_congr fun y hy => ?_
      obtain ⟨j, a, b, rfl⟩ := seg_mem hy (by omega)
      have := B j a b
      obtain ⟨c, r, e⟩ := h4 j (by omega) (by omega)
      rw [e, txt_cps, g] at this
      subst this
      rw [e, drop_pre hpl, show p ++ (97 + i) :: r = (p ++ [97 + i]) ++ r by simp, drop_pre (k := k + 1) (by simp [hpl]), drop_item hk, mt, hn]
      simp
    have e3' : (seg xs first last).filter (fun y => mt st (its.drop k) (y.cps.toList.drop k) && decide ((y.cps.toList.drop k).headD 0 < 97 + i)) = [] := by
      refine filter_none fun y hy => ?_
      obtain ⟨j, a, b, rfl⟩ := seg_mem hy (by omega)
      have := B j a b
      obtain ⟨c, r, e⟩ := h4 j (by omega) (by omega)
      rw [e, txt_cps, g] at this
      rw [e, drop_pre hpl, show decide ((c :: r).headD 0 < 97 + i) = false from decide_eq_false (by simp; omega), Bool.and_false]
    have e4 : ∀ i', i' ≤ i + 1 → (seg xs last hi).filter (fun y => mt st (its.drop k) (y.cps.toList.drop k) && decide ((y.cps.toList.drop k).headD 0 < 97 + i')) = [] := fun i' hi' => by
      refine filter_none fun y hy => ?_
      obtain ⟨j, a, b, rfl⟩ := seg_mem hy (by omega)
      have := C j a b
      obtain ⟨c, r, e⟩ := h4 j (by omega) (by omega)
      rw [e, txt_cps, g] at this
      rw [e, drop_pre hpl, show decide ((c :: r).headD 0 < 97 + i') = false from decide_eq_false (by simp; omega), Bool.and_false]
    unfold cut
    rw [seg_split xs (lo := lo) (m := start) (hi := hi) hst.1 hst.2, seg_split xs (lo := start) (m := first) (hi := hi) f1 f2, seg_split xs (lo := first) (m := last) (hi := hi) l1 l2]
    simp only [List.filter_append]
    rw [e1, e1, e2, e3, e3', e4 _ (by omega), e4 _ (by omega)]
    simp
  · have := B j a b
    obtain ⟨c, r, e⟩ := h4 j (by omega) (by omega)
    rw [e, txt_cps, g] at this
    subst this
    exact ⟨r, by rw [e]; simp⟩
end
theorem seg_len (xs : List Str) (lo hi : Nat) : (seg xs lo hi).length ≤ xs.length := by unfold seg; rw [List.length_take, List.length_drop]; omega
theorem cut_len (its : List Item) (st : Bool) (xs : List Str) (k lo hi i : Nat) : (cut its st xs k lo hi i).length ≤ xs.length := Nat.le_trans (List.length_filter_le _ _) (seg_len xs lo hi)
theorem fnd_len (its : List Item) (st : Bool) (xs : List Str) (k lo hi : Nat) : (fnd its st xs k lo hi).length ≤ xs.length := Nat.le_trans (List.length_filter_le _ _) (seg_len xs lo hi)
end Mine

end

theorem Mine.quiet_Fo : True := by
  w_top off
  trivial

section
open PySem PySem.W PyProof.Rows PySem.Calls
namespace Mine
section
variable {prog : Program} {w : World} {A : Around} {Q : Flow → Shared → Prop} {s : Shared} {env : Env}
/-- for x in a text: I says of each state what holds between the turns -/
theorem For_str {x : Str} {px pos : Pos} {iter : PySem.Expr} {body : List Stmt} (hh : A.handled = none)
    (h : wpAny (model prog w) A (eval iter env) (fun xv s₁ => ∃ (y : Str) (t : Tok) (I : Nat → Shared → Prop), xv = .str y t ∧ y.cps.all (· < 128) = true ∧
      (∀ oI : Obj, I 0 { s₁ with heap := s₁.heap.push oI }) ∧
      (∀ i v s' h₁ tk₁ oI, i < y.cps.size → SignAt y i v → I i s' → s'.heap.IsStrIter s₁.heap.objs.size "str_ascii_iterator" y t i → (∀ b o, b ≠ s₁.heap.objs.size → s'.heap.get? b = some o → h₁.get? b = some o) → h₁.get? s₁.heap.objs.size = some oI →
        wpAny (model prog w) A (assign (.Name x px) env v) (fun _ s₂ => wpAny (model prog w) A (execs body env) (NextR fun s₃ => I (i + 1) s₃ ∧ s₃.heap.get? s₁.heap.objs.size = some oI) (fun _ _ => False) s₂) (fun _ _ => False) { s' with heap := h₁, toks := tk₁ }) ∧
      (∀ s' h₁ tk₁, I y.cps.size s' → s'.heap.IsStrIter s₁.heap.objs.size "str_ascii_iterator" y t y.cps.size → (∀ b o, b ≠ s₁.heap.objs.size → s'.heap.get? b = some o → h₁.get? b = some o) → Q .next { s' with heap := h₁, toks := tk₁ })) (fun _ _ => False) s)
    (hs : ∀ x, foldedSetIterable iter env x = pure x := by intro _; rfl) :
    wpAny (model prog w) A (exec (.For (.Name x px) iter body [] pos) env) Q (fun _ _ => False) s := by
  refine wpAny_For (wpAny_mono h (fun xv s₁ h₁ => ?_) fun _ _ e => e) hs
  obtain ⟨y, t, I, rfl, ha, I0, turn, done⟩ := h₁
  refine wpAny_pyIter_ascii ha ?_
  have W := Walks.strAscii (prog := prog) (w := w) hh s₁.heap.objs.size y t
  refine codeAny_forLoop (R := fun r s' => match r with | .ok f => Q f s' | .error e => cameBackBy (model prog w) A env (fun _ _ => False) e s')
    (fun k s' => ∃ i, i ≤ y.cps.size ∧ k = y.cps.size + 1 - i ∧ s'.heap.IsStrIter s₁.heap.objs.size "str_ascii_iterator" y t i ∧ I i s') ?_ (y.cps.size + 1)
    ⟨0, Nat.zero_le _, rfl, ⟨_, Heap.get?_push_size _ rfl, rfl, rfl⟩, I0 _⟩
  rintro k s' ⟨i, hi, rfl, hst, hI⟩
  by_cases hlt : i < y.cps.size
  · refine W.item i _ _ _ hlt hst fun v h₁ tk₁ hP hst₁ hk₁ => ?_
    obtain ⟨oI, e, r⟩ := hst₁
    refine wpAny_mono (turn i v s' h₁ tk₁ oI hlt hP hI hst (fun b o hb e => hk₁ b o (by simpa using hb) e) e) (fun _ s₂ h₂ => ?_) fun _ _ x => x.elim
    refine wpAny_mono h₂ (fun f s₃ h₃ => ?_) fun _ _ x => x.elim
    obtain ⟨rfl, hI', e'⟩ := h₃
    exact ⟨y.cps.size + 1 - (i + 1), by omega, i + 1, hlt, rfl, ⟨oI, e', r⟩, hI'⟩
  · have hin : i = y.cps.size := by omega
    subst hin
    refine W.done _ _ _ hst fun h₁ tk₁ hk₁ => wpAny_execs_nil ?_
    exact done s' h₁ tk₁ hI hst fun b o hb e => hk₁ b o (by simpa using hb) e
end
theorem off_it {g h h₁ : Heap} {L IT : Addr} {m : Str → Option Value} {news : List (Addr × Obj)} (F : Fr g L h m) (N : News g L h news) (hk : ∀ b o, b ≠ IT → h.get? b = some o → h₁.get? b = some o) (h1 : IT ≠ L) (h2 : g.get? IT = none) (h3 : ∀ p ∈ news, p.1 ≠ IT) : Fr g L h₁ m ∧ News g L h₁ news :=
  ⟨fr_ext F hk h1 h2, news_apart N fun p hp o e => hk _ _ (h3 p hp) e⟩
/-- an object that is a code of the lambdas -/
def IsLam (o : Obj) : Prop := ∃ vs t, o.data = .fields vs ∧ vs[1]? = some (.str lamQual t)
theorem LamTab.keepsX {h h' : Heap} {ps : Array Value} {P : Addr} (x : LamTab h ps) (n : ∀ o, h.get? P = some o → ¬ IsLam o) (k : ∀ b o, b ≠ P → h.get? b = some o → h'.get? b = some o) : LamTab h' ps :=
  ⟨x.1, fun b cv hc => by
    obtain ⟨c, o, vs, t, rfl, ho, hd, hv⟩ := x.2 b cv hc
    exact ⟨c, o, vs, t, rfl, k c o (fun q => n o (q ▸ ho) ⟨vs, t, hd, hv⟩) ho, hd, hv⟩⟩
theorem no_lam_iter {h : Heap} {a : Addr} {ty : String} {x : Str} {t : Tok} {i : Nat} (s : h.IsStrIter a ty x t i) : ∀ o, h.get? a = some o → ¬ IsLam o := by
  rintro o e ⟨vs, u, hd, hv⟩
  obtain ⟨o', e', _, hd'⟩ := s
  rw [e] at e'; cases e'
  rw [hd] at hd'; cases hd'
  cases hv
/-- an entry of the ledger for a lambda's code -/
def CodeIn (g : Heap) (e : Addr × Obj) (b : Bool) (ps : Array Value) : Prop := ∀ cv, codeAmong (lamPos b) ps.toList = some cv → g.CodeRec cv lamQual ∨ (cv = .ref e.1 ∧ IsLam e.2)
theorem lam_to1 {g h : Heap} {L : Addr} {m : Str → Option Value} {news : List (Addr × Obj)} {ps : Array Value} (F : Fr g L h m) (N : News g L h news) {d : Addr × Obj} (hd : d ∈ news) (x : LamTab h ps) (b : Bool) :
    ∃ e : Addr × Obj, (h.get? e.1 = some e.2 ∧ e.1 ≠ L ∧ g.get? e.1 = none) ∧ CodeIn g e b ps ∧ (e = d ∨ IsLam e.2) := by
  cases hc : codeAmong (lamPos b) ps.toList with
  | none => exact ⟨d, N d hd, fun cv h => (by rw [hc] at h; cases h), .inl rfl⟩
  | some cv =>
    obtain ⟨c, o, vs, t, rfl, ho, hdd, hv⟩ := x.2 b cv hc
    cases hg : g.get? c with
    | some o' =>
      refine ⟨d, N d hd, fun cv' h => ?_, .inl rfl⟩
      rw [hc] at h; cases h
      have := F.keep _ _ hg
      rw [ho] at this; cases this
      exact .inl ⟨c, o, vs, t, rfl, hg, hdd, hv⟩
    | none =>
      refine ⟨(c, o), ⟨ho, fun q => ?_, hg⟩, fun cv' h => ?_, .inr ⟨vs, t, hdd, hv⟩⟩
      · have hns := F.ns
        obtain ⟨o', es, ep, e, hd', _⟩ := hns
        have q' : c = L := q
        rw [← q', ho] at e; cases e
        rw [hdd] at hd'; cases hd'
      · rw [hc] at h; cases h
        exact .inr ⟨rfl, vs, t, hdd, hv⟩
theorem lam_from {g h : Heap} {L : Addr} {m : Str → Option Value} {news : List (Addr × Obj)} {ps : Array Value} (F : Fr g L h m) (N : News g L h news) {e1 e2 : Addr × Obj} (h1 : e1 ∈ news) (h2 : e2 ∈ news) (ht : TriplesOk ps.toList) (c1 : CodeIn g e1 true ps) (c2 : CodeIn g e2 false ps) : LamTab h ps :=
  ⟨ht, fun b cv hc => by
    cases b with
    | true =>
      rcases c1 cv hc with x | ⟨rfl, vs, t, hd, hv⟩
      · exact x.keeps F.keep
      · exact ⟨_, _, vs, t, rfl, (N _ h1).1, hd, hv⟩
    | false =>
      rcases c2 cv hc with x | ⟨rfl, vs, t, hd, hv⟩
      · exact x.keeps F.keep
      · exact ⟨_, _, vs, t, rfl, (N _ h2).1, hd, hv⟩⟩
theorem not_lam_tab {ps : Array Value} (ht : TriplesOk ps.toList) : ¬ IsLam (tabObj ps) := by
  rintro ⟨vs, t, hd, hv⟩
  cases hd
  exact triples_no_str ht (by simpa using hv)
abbrev lamScope : Scope := { kind := ScopeKind.function, names := [(Str.ofString "name", NameKind.local), (Str.ofString "k", NameKind.free)], isGenerator := false, isCoroutine := false }
theorem keyAt_txt {l : List Nat} {k : Nat} (h : k < l.length) : keyAt k (txt l) = txt [l[k]] := by
  unfold keyAt
  rw [txt_cps]
  simp [List.getD, h]
set_option maxHeartbeats 0 in
/-- a lambda of _law_found as a key -/
theorem lam_key {w : World} {h : Heap} {kf C : Addr} {ps : Arguments} {p1 p2 p3 p4 : Pos} {cv ctv pm : Value} {o : Obj} {k : Nat} {tk1 : Tok} (hps : ps = { posonlyargs := [], args := [{ arg := Str.ofString "name", annotation := none, pos := p1 }], vararg := none, kwonlyargs := [], kw_defaults := [], kwarg := none, defaults := [] })
    (G : Gnd w h) (e : h.get? kf = some { cls := .type "function", data := .func (kla_fn (Str.ofString "<lambda>") lamQual ps (.Subscript (.Name (Str.ofString "name") p4) (.Name (Str.ofString "k") p2) p3) lamScope [(Str.ofString "k", C)] pm cv ctv) })
    (hc : h.CodeRec cv lamQual) (ho : h.get? C = some o) (hd : o.data = .cell (some (.int k tk1))) : KeyOk w h kf 1 0 (fun y => ∃ l, y = txt l ∧ k < l.length ∧ l.length ≤ 1000) (keyAt k) := by
  subst hps
  refine ⟨⟨_, _, _, _, e⟩, ?_⟩
  rintro A s y t hk hdp hun ⟨l, rfl, hkl, hll⟩
  obtain ⟨p, loose, mean, mg, mb, T⟩ := (G.keeps hk).t
  refine wpAny_call (kla_callFunE (by omega) (hk _ _ e) rfl rfl rfl rfl (hc.keeps hk) ?_)
  refine wpAny_of_eq (a := [(Str.ofString "name", Value.str (txt l) t)]) rfl ?_
  refine wpAny_newFunctionEnv (show ∀ x ∈ lamScope.names, x.2 ≠ .cell by decide) (locs rfl) (fun h₁ hns hsb => ⟨T.nolimit.fresh _ hsb, ?_⟩) rfl
  have hk₁ : ∀ b o, s.heap.get? b = some o → h₁.get? b = some o := fun b o e => hsb.extBut b o (Nat.ne_of_lt (Heap.lt_size e)) (Heap.get?_push_of_some _ e)
  have F : Fr s.heap s.heap.objs.size h₁ _ := ⟨hns, hk₁, Nat.le_refl _⟩
  have hC := hk _ _ ho
  refine kla_codeExpr (wpAny_mono ?_ (fun _ _ h => h) fun _ _ (x : False) => x.elim)
  iterate 3 (walk_at "w")
  refine' item_n k ?i1 ?i2 ?i3 ?_
  case i1 => rfl
  case i2 => exact List.getElem?_eq_getElem hkl
  case i3 => omega
  exact Done.mk ⟨_, _, rfl, hk₁⟩ ⟨_, by rw [keyAt_txt hkl]⟩
theorem KeyOk.mono {w : World} {h : Heap} {kf : Addr} {D U : Nat} {P P' : Str → Prop} {key : Str → Str} (K : KeyOk w h kf D U P key) (i : ∀ y, P' y → P y) : KeyOk w h kf D U P' key :=
  ⟨K.1, fun A s y t a b c d => K.2 A s y t a b c (i y d)⟩
/-- a ledger with the codes of the lambdas in it -/
def Led (g h : Heap) (L : Addr) (pre : List (Addr × Obj)) (d e1 e2 : Addr × Obj) (ps : Array Value) : Prop :=
  News g L h (pre ++ [e1, e2, (101, tabObj ps)]) ∧ CodeIn g e1 true ps ∧ CodeIn g e2 false ps ∧ TriplesOk ps.toList ∧ (e1 = d ∨ IsLam e1.2) ∧ (e2 = d ∨ IsLam e2.2)
theorem led_of {g h : Heap} {L : Addr} {m : Str → Option Value} {pre : List (Addr × Obj)} {ps : Array Value} (F : Fr g L h m) (N : News g L h (pre ++ [(101, tabObj ps)])) {d : Addr × Obj} (hd : d ∈ pre) (x : LamTab h ps) : ∃ e1 e2, Led g h L pre d e1 e2 ps := by
  obtain ⟨e1, n1, c1, s1⟩ := lam_to1 F N (List.mem_append_left _ hd) x true
  obtain ⟨e2, n2, c2, s2⟩ := lam_to1 F N (List.mem_append_left _ hd) x false
  refine ⟨e1, e2, fun p hp => ?_, c1, c2, x.1, s1, s2⟩
  rcases List.mem_append.mp hp with hp | hp
  · exact N p (List.mem_append_left _ hp)
  · rcases List.mem_cons.mp hp with rfl | hp
    · exact n1
    · rcases List.mem_cons.mp hp with rfl | hp
      · exact n2
      · exact N p (List.mem_append_right _ hp)
theorem led_tab {g h : Heap} {L : Addr} {m : Str → Option Value} {pre : List (Addr × Obj)} {d e1 e2 : Addr × Obj} {ps : Array Value} (F : Fr g L h m) (x : Led g h L pre d e1 e2 ps) : LamTab h ps :=
  lam_from F x.1 (e1 := e1) (e2 := e2) (List.mem_append_right _ (.head _)) (List.mem_append_right _ (.tail _ (.head _))) x.2.2.2.1 x.2.1 x.2.2.1
/-- the addresses of the codes are no others -/
theorem led_ne {g h : Heap} {L : Addr} {pre : List (Addr × Obj)} {d e1 e2 : Addr × Obj} {ps : Array Value} (x : Led g h L pre d e1 e2 ps) {P : Addr} (hd : d.1 ≠ P) (n : ∀ o, h.get? P = some o → ¬ IsLam o) : e1.1 ≠ P ∧ e2.1 ≠ P := by
  obtain ⟨N, _, _, _, s1, s2⟩ := x
  have n1 := (N e1 (List.mem_append_right _ (.head _))).1
  have n2 := (N e2 (List.mem_append_right _ (.tail _ (.head _)))).1
  constructor
  · rcases s1 with rfl | s1
    · exact hd
    · exact fun q => n _ (q ▸ n1) s1
  · rcases s2 with rfl | s2
    · exact hd
    · exact fun q => n _ (q ▸ n2) s2
set_option maxHeartbeats 0 in
/-- a lambda of _law_found, made -/
theorem lam_go {w : World} {A : Around} {E : Value → Shared → Prop} {Q : Value → Shared → Prop} {s : Shared} {g : Heap} {L C : Addr} {m : Str → Option Value} {pre : List (Addr × Obj)} {e1 e2 : Addr × Obj} {ps : Array Value} {o : Obj} {k : Nat} {tk1 : Tok} {env : Env} {p1 p2 p3 p4 : Pos} (b : Bool)
    (G : Gnd w g) (F : Fr g L s.heap m) (x : Led g s.heap L pre (C, o) e1 e2 ps) (hne : ∀ p ∈ pre, p.1 ≠ 101) (hC : (C, o) ∈ pre) (hd : o.data = .cell (some (.int k tk1)))
    (hcode : env.code = .ref 105) (hge : env.globals = mainGlobals) (hq : env.qual ++ "<lambda>" = lamQual) (hcl : closureFor lamScope env = pure [(Str.ofString "k", C)])
    (h : ∀ lf fo h' tk ps' e1' e2', Fr g L h' m → Led g h' L ((lf, fo) :: pre) (C, o) e1' e2' ps' → (∀ p ∈ pre, p.1 < lf) → KeyOk w h' lf 1 0 (fun y => ∃ l, y = txt l ∧ k < l.length ∧ l.length ≤ 1000) (keyAt k) → Q (.ref lf) { s with heap := h', toks := tk }) :
    wpAny (model PR w) A (eval (.Lambda { posonlyargs := [], args := [{ arg := Str.ofString "name", annotation := none, pos := p1 }], vararg := none, kwonlyargs := [], kw_defaults := [], kwarg := none, defaults := [] } (.Subscript (.Name (Str.ofString "name") p4) (.Name (Str.ofString "k") p2) p3) lamScope (lamPos b)) env) Q E s := by
  have N : News g L s.heap ((pre ++ [e1, e2]) ++ [(101, tabObj ps)]) := fun p hp => x.1 p (by simpa using hp)
  have h101 := N.get (List.mem_append_right _ (.head _))
  have h101' := N (101, tabObj ps) (List.mem_append_right _ (.head _))
  have hT := led_tab F x
  have hne' := led_ne x (P := 101) (hne _ hC) (fun o e => by rw [h101] at e; cases e; exact not_lam_tab hT.1)
  obtain ⟨p, loose, mean, mg, mb, T⟩ := (G.keeps F.keep).t
  refine kla_eval rfl ?_
  rw [hq]
  refine lam_made (mg := mg) hcl hge T hcode (G.c1.keeps F.keep) h101 hT.1 fun lf cv ctv h' tk ps' hx hf hsz hP ht' hr => ?_
  obtain ⟨hT', hrec⟩ := hT.grow h101 hx ht' hr
  have F' := fr_ext F hx h101'.2.1 h101'.2.2
  have N' := news_ext N hx hP (by
    intro p hp
    rcases List.mem_append.mp hp with hp | hp
    · exact hne p hp
    · rcases List.mem_cons.mp hp with rfl | hp
      · exact hne'.1
      · rw [List.mem_singleton.mp hp]; exact hne'.2)
  have hLlf : L < lf := Nat.lt_of_lt_of_le F.ns.lt hsz
  have N2 : News g L h' ((lf, { cls := .type "function", data := .func (kla_fn _ _ _ _ _ _ _ _ _) }) :: pre ++ [(101, tabObj ps')]) := fun p hp => by
    rcases List.mem_cons.mp hp with rfl | hp
    · exact ⟨hf, Nat.ne_of_gt hLlf, Heap.get?_none_of_le (Nat.le_trans F.above (Nat.le_of_lt hLlf))⟩
    · rcases List.mem_append.mp hp with hp | hp
      · exact N' p (List.mem_append_left _ (List.mem_append_left _ hp))
      · exact N' p (List.mem_append_right _ hp)
  obtain ⟨e1', e2', x'⟩ := led_of F' N2 (List.mem_cons_of_mem _ hC) hT'
  have hC' := (N' _ (List.mem_append_left _ (List.mem_append_left _ hC))).1
  exact h lf _ h' tk ps' e1' e2' F' x' (fun p hp => Nat.lt_of_lt_of_le (Heap.lt_size (N p (List.mem_append_left _ (List.mem_append_left _ hp))).1) hsz) (lam_key rfl (G.keeps F'.keep) hf hrec hC' hd)
end Mine

end

theorem Mine.quiet_Lf : True := by
  w_top off
  trivial

section
open PySem PySem.W PyProof.Rows PySem.Calls
namespace Mine
def LFpost (s : Shared) (its : List Item) (st : Bool) (xs : List Str) (k lo hi : Nat) (v : Value) (s' : Shared) : Prop :=
  ∃ h' tk ps' D n ys, s' = { s with heap := h', toks := tk } ∧ v = .ref D ∧ (∀ b o, b ≠ 101 → s.heap.get? b = some o → h'.get? b = some o) ∧ h'.get? 101 = some (tabObj ps') ∧ LamTab h' ps' ∧
    s.heap.get? D = none ∧ h'.get? D = some (listOf (List.toArray ys) n) ∧ StrsAre ys (fnd its st xs k lo hi)
def LF (w : World) (its : List Item) (st : Bool) (S nm pa : Addr) (xs : List Str) (k : Nat) : Prop :=
   ∀ (A : Around) (s : Shared) (g : Heap) (G : Gnd w g) (hg : ∀ b o, g.get? b = some o → s.heap.get? b = some o) (h101 : g.get? 101 = none) (ps : Array Value) (e101 : s.heap.get? 101 = some (tabObj ps)) (ht : LamTab s.heap ps)
   (vs pv : List Value) (nn np : Nat) (hn0 : s.heap.get? nm = some (listOf vs.toArray nn)) (hx : StrsAre vs xs) (hp : s.heap.get? pa = some (listOf (pv ++ if st = true then [Value.ref S] else []).toArray np)) (hpv : StrsAre pv (its.map fun it => txt it.part))
   (hd : A.depth + 2 * (its.length - k) + 6 < recursionLimit) (hu : A.units + 100 * (its.length - k) + 100 < cLine) (hh : A.handled = none) (lo hi : Nat) (hhi : hi ≤ xs.length) (tk1 tk2 tk3 : Tok)
   (p : List Nat) (hpl : p.length = k) (hpre : ∀ i, lo ≤ i → i < hi → ∃ r, xs.getD i Str.empty = txt (p ++ r)),
   wpAny (model PR w) A (call (.ref 106) [.ref nm, .ref pa, .ref S, .int k tk1, .int lo tk2, .int hi tk3]) (fun v s' => LFpost s its st xs k lo hi v s') (fun _ _ => False) s
theorem mem3 {α : Type _} {p a b c : α} (H : p ∈ [a, b, c]) : p = a ∨ p = b ∨ p = c := by simpa using H
inductive Lf2 (s : Shared) (L : Addr) (o : Obj) (ps : Array Value) (fnd0 : Addr) (nm : Addr) (pa : Addr) (S : Addr) (hi : Nat) (start : Nat) (tst : Tok) (tk3 : Tok) (s' : Shared) : Prop
  | mk (h : Heap) (tk : Nat) (m : Str → Option Value) (p1 : s' = ⟨h, s.gens, s.drawn, tk, s.os⟩) (p2 : Fr (hideAll s.heap [101]) L h m) (p3 : News (hideAll s.heap [101]) L h [(fnd0, listOf #[] 0), (L + 1, o), (101, tabObj ps)]) (p4 : m (Str.ofString "names") = some (.ref nm)) (p5 : m (Str.ofString "parts") = some (.ref pa)) (p6 : m (Str.ofString "star") = some (.ref S)) (p7 : m (Str.ofString "high") = some (.int hi tk3)) (p8 : m (Str.ofString "start") = some (.int start tst)) (p9 : m (Str.ofString "found") = some (.ref fnd0))
inductive Lf3 (s : Shared) (L : Addr) (o : Obj) (hi : Nat) (lo : Nat) (k : Nat) (its : List Item) (st : Bool) (xs : List Str) (s' : Shared) : Prop
  | mk (h : Heap) (tk : Nat) (m : Str → Option Value) (ps' : Array Value) (Df : Addr) (nf : Nat) (ys : List Value) (p1 : s' = ⟨h, s.gens, s.drawn, tk, s.os⟩) (p2 : Fr (hideAll s.heap [101]) L h m) (p3 : News (hideAll s.heap [101]) L h [(Df, listOf (List.toArray ys) nf), (L + 1, o), (101, tabObj ps')]) (p4 : 101 < Df) (p5 : LamTab h ps') (p6 : StrsAre ys (fnd its st xs k lo hi)) (p7 : m (Str.ofString "found") = some (.ref Df))
inductive Lf4 (s : Shared) (L : Addr) (o : Obj) (nm : Addr) (pa : Addr) (S : Addr) (hi : Nat) (lo : Nat) (k : Nat) (i : Nat) (start : Nat) (tst : Tok) (tk3 : Tok) (its : List Item) (st : Bool) (xs : List Str) (IT : Addr) (s' : Shared) : Prop
  | mk (h : Heap) (tk : Nat) (m : Str → Option Value) (ps' : Array Value) (Df : Addr) (nf : Nat) (ys : List Value) (p1 : s' = ⟨h, s.gens, s.drawn, tk, s.os⟩) (p2 : Fr (hideAll s.heap [101]) L h m) (p3 : News (hideAll s.heap [101]) L h [(Df, listOf (List.toArray ys) nf), (L + 1, o), (101, tabObj ps')]) (p4 : 101 < Df) (p5 : Df ≠ IT) (p6 : LamTab h ps') (p7 : StrsAre ys (cut its st xs k lo hi i)) (p8 : m (Str.ofString "names") = some (.ref nm)) (p9 : m (Str.ofString "parts") = some (.ref pa)) (p10 : m (Str.ofString "star") = some (.ref S)) (p11 : m (Str.ofString "high") = some (.int hi tk3)) (p12 : m (Str.ofString "start") = some (.int start tst)) (p13 : m (Str.ofString "found") = some (.ref Df))
theorem deeper2 {d a k R : Nat} (h : d + 2 * (a - k) + 6 < R) (hk : k < a) : d + 1 + 2 * (a - (k + 1)) + 6 < R := by omega
theorem units2 {d a k c R : Nat} (h : d + 100 * (a - k) + 100 < R) (hk : k < a) (hc : c ≤ 100) : d + c + 100 * (a - (k + 1)) + 100 < R := by omega
set_option maxRecDepth 100000 in
set_option maxHeartbeats 0 in
theorem lf_step (w : World) (its : List Item) (hok : ∀ it ∈ its, it.ok) (hlen : its.length ≤ 3) (st : Bool) (S nm pa : Addr) (xs : List Str) (hsz : xs.length < 1000) (hlet : ∀ y ∈ xs, ∀ c ∈ y.cps.toList, IsLetter c) (hlong : ∀ y ∈ xs, y.cps.toList.length ≤ 1000) (hsort : Sorted xs)
   (k : Nat) (hk : k ≤ its.length) (ih : k < its.length → LF w its st S nm pa xs (k + 1)) : LF w its st S nm pa xs k := by
  intro A s g G hg h101 ps e101 ht vs pv nn np hn0 hx hp hpv hd hu hh lo hi hhi tk1 tk2 tk3 p hpl hpre
  obtain ⟨hdl, dp, fr, gds, un⟩ := A
  dsimp only at hh hd hu
  subst hh
  refine enterC (g := hideAll s.heap [101]) (G.keeps fun b o e => hide_keep (hg b o e) fun q => by rw [q, h101] at e; cases e) (fun b o e => hide_of e) hide_size (ho := rfl) (hcd := rfl) (by show dp < _; omega) (bindsK (G.keeps hg) (fun _ => rfl)) rfl (by decide) rfl rfl rfl ?_
  intro L h₁ tk cells hL F N Y hk₁
  have G' : Gnd w (hideAll s.heap [101]) := G.keeps fun b o e => hide_keep (hg b o e) fun q => by rw [q, h101] at e; cases e
  obtain ⟨pp, loose, mean, mg, mb, T⟩ := G'.t
  have X := G'.x
  have hrow : PySem.Challenge.rw_in0020_01 = PySem.Challenge.rw_in0020_01 := rfl
  revert hrow X
  k_fill
  intro X hrow
  obtain ⟨o, rfl, ho⟩ := CellsAre.one Y
  clear Y
  replace ho : o.data = .cell (some (.int k tk1)) := ho
  have lt101 := Heap.lt_size e101
  have n101 : nm ≠ 101 := fun q => by rw [q, e101] at hn0; cases hn0
  have p101 : pa ≠ 101 := fun q => by rw [q, e101] at hp; cases hp
  have N₀ : News (hideAll s.heap [101]) L h₁ [(L + 1, o), (101, tabObj ps)] := fun q hq => by
    rcases List.mem_cons.mp hq with rfl | hq
    · exact N _ (.head _)
    · rw [List.mem_singleton.mp hq]
      exact ⟨hk₁ _ _ e101, Nat.ne_of_lt (hL ▸ lt101), hide_none⟩
  clear N
  have hn' : (hideAll s.heap [101]).IsList nm vs.toArray := ⟨_, hide_keep hn0 n101, rfl, _, rfl⟩
  have hp' : (hideAll s.heap [101]).IsList pa (pv ++ if st = true then [Value.ref S] else []).toArray := ⟨_, hide_keep hp p101, rfl, _, rfl⟩
  have hxl := strs_len hx
  have hpl' := strs_len hpv
  rw [List.length_map] at hpl'
  obtain ⟨pvs, hpvs⟩ : ∃ pvs, pvs = pv ++ if st = true then [Value.ref S] else [] := ⟨_, rfl⟩
  rw [← hpvs] at hp'
  have hpsz : pvs.length = its.length + (if st = true then 1 else 0) := by rw [hpvs, List.length_append, hpl']; split <;> rfl
  have hpsz' : pvs.length ≤ 4 := by rw [hpsz]; split <;> omega
  have hpkk : ∀ hki : k < its.length, ∃ t, pvs[k]? = some (.str (txt (its[k]'hki).part) t) := fun hki => by
    obtain ⟨t, ht⟩ := strs_at hpv (i := k) (v := pv[k]'(by omega)) (List.getElem?_eq_getElem (by omega))
    refine ⟨t, ?_⟩
    rw [hpvs, List.getElem?_append_left (by omega), List.getElem?_eq_getElem (by omega), ht]
    simp [List.getD, hki]
  have newAt : ∀ {h' m tl D ob}, Fr (hideAll s.heap [101]) L h' m → News (hideAll s.heap [101]) L h' ((D, ob) :: tl) → 101 < D → s.heap.get? D = none := fun {h' m tl D ob} F N l => by
    cases e : s.heap.get? D with
    | none => rfl
    | some o => have := hide_keep (a := 101) e (Nat.ne_of_gt l); rw [(N _ (.head _)).2.2] at this; cases this
  iterate 7 (walk_at "w")
  by_cases hlh : hi ≤ lo
  · rw [if_pos (decide_eq_true (by exact_mod_cast hlh))]
    iterate 5 (walk_at "w")
    rename Fr _ L _ _ => F₁
    rename News _ L _ _ => N₁
    rename _ < _ ∧ _ < _ => l1
    exact ⟨_, _, ps, _, _, [], rfl, rfl, fun b o hb e => F₁.keep b o (hide_keep e hb), N₁.get (.tail _ (.tail _ (.head _))), ht.keeps e101 (fun b o hb e => F₁.keep b o (hide_keep e hb)), newAt F₁ N₁ l1.2, N₁.get (.head _), by rw [fnd_nil (by omega)]; exact .nil⟩
  · rw [if_neg (by simp; omega)]
    walk_at "w"
    by_cases hii : k = its.length ∧ st = true
    · obtain ⟨hki, hst⟩ := hii
      iterate 11 (walk_at "w")
      rename Fr _ L _ _ => F₁
      refine PyProof.Rows.len_list (hp'.at fun o e => F₁.keep _ o e) (by rw [List.size_toArray]; omega) ?_
      iterate 2 (walk_at "w")
      rw [if_pos (decide_eq_true (by rw [List.size_toArray, hpsz, hki, if_pos hst]; omega))]
      iterate 5 (walk_at "w")
      rename Fr _ L _ _ => F₁
      refine item_listL (l := pvs) (hp'.at fun o e => F₁.keep _ o e) (by omega) (by omega) (x := .ref S) (by rw [hpvs, hst, if_pos rfl]; simp; rw [hki, ← hpl']; simp) ?_
      walk_at "w"
      refine is_ref_same ?_
      iterate 16 (walk_at "w")
      rename Fr _ L _ _ => F₁
      rename News _ L _ _ => N₁
      rw [pick_run2 (by omega) (by omega)] at N₁
      exact ⟨_, _, ps, _, 0, _, rfl, rfl, fun b o hb e => F₁.keep b o (hide_keep e hb), N₁.get (.tail _ (.tail _ (.head _))), ht.keeps e101 (fun b o hb e => F₁.keep b o (hide_keep e hb)), newAt F₁ N₁ (Nat.lt_succ_of_lt (Heap.lt_size (N₀.get (.tail _ (.head _))))), N₁.get (.head _), by rw [hst, fnd_star hki]; exact (hx.drop' lo).take' (hi - lo)⟩
    refine cutK (fun s' => ∃ tk, s' = ⟨h₁, s.gens, s.drawn, tk, s.os⟩) (fun K hK => ?_) ?_
    · rcases Nat.lt_or_ge k its.length with hki | hki
      · iterate 10 (walk_at "w")
        rename Fr _ L _ _ => F₁
        refine PyProof.Rows.len_list (hp'.at fun o e => F₁.keep _ o e) (by rw [List.size_toArray]; omega) ?_
        iterate 2 (walk_at "w")
        rw [if_pos (decide_eq_true (by rw [List.size_toArray]; omega))]
        iterate 5 (walk_at "w")
        obtain ⟨tpk, hpk⟩ := hpkk hki
        rename Fr _ L _ _ => F₁
        refine item_listL (l := pvs) (hp'.at fun o e => F₁.keep _ o e) (by omega) (by omega) (by simpa using hpk) ?_
        walk_at "w"
        refine is_str_ref ?_
        iterate 5 (walk_at "w")
        exact hK _ ⟨_, rfl⟩
      · have hki' : k = its.length := by omega
        have hst : st = false := by cases st; rfl; exact absurd ⟨hki', rfl⟩ hii
        iterate 10 (walk_at "w")
        rename Fr _ L _ _ => F₁
        refine PyProof.Rows.len_list (hp'.at fun o e => F₁.keep _ o e) (by rw [List.size_toArray]; omega) ?_
        iterate 2 (walk_at "w")
        rw [if_neg (by rw [List.size_toArray, hpsz, hki', hst]; simp)]
        iterate 3 (walk_at "w")
        exact hK _ ⟨_, rfl⟩
    rintro _ ⟨tk, rfl⟩
    iterate 14 (walk_at "w")
    rename Fr _ L _ _ => F₁
    rename News _ L _ _ => N₁
    obtain ⟨r0, hr0⟩ := hpre lo (Nat.le_refl _) (by omega)
    obtain ⟨tlo, hvlo⟩ : ∃ t, vs[lo]? = some (.str (txt (p ++ r0)) t) := by
      obtain ⟨t, ht⟩ := strs_at hx (i := lo) (v := vs[lo]'(by omega)) (List.getElem?_eq_getElem (by omega))
      exact ⟨t, by rw [List.getElem?_eq_getElem (by omega), ht, hr0]⟩
    refine item_listL (l := vs) (hn'.at fun o e => F₁.keep _ o e) (by omega) (by omega) (by simpa using hvlo) ?_
    iterate 5 (walk_at "w")
    rename Fr _ L _ _ => F₁
    rename News _ L _ _ => N₁
    have hrl : p.length + r0.length ≤ 1000 := by
      have hy : xs[lo]'(by omega) ∈ xs := List.getElem_mem _
      have := hlong _ hy
      rw [show xs[lo]'(by omega) = xs.getD lo Str.empty by simp [List.getD, show lo < xs.length by omega], hr0, txt_cps, List.length_append] at this
      exact this
    refine' cut_ns p k ?cF ?cN ?cb ?cl ?ce ?cz ?_
    case cF => exact F₁
    case cN => exact N₁
    case cb => exact clip_nat rfl (by rw [List.length_append, hpl]; exact Nat.le_add_right _ _)
    case cl => simp; omega
    case ce => rw [← hpl, List.take_left]
    case cz => simp; omega
    intro h₂ t₂ tk₂ F₂ N₂
    clear F₁ N₁
    iterate 6 (walk_at "w")
    refine' use (bisR w _ _ ?bg ?bd nm vs xs ?bl hx (txt p) _ lo hi _ _ ?bo hhi hsz) ?_
    case bg => exact G'.keeps F₂.keep
    case bl => exact hn'.at fun o e => F₂.keep _ o e
    case bo => omega
    case bd => show dp + 1 + 1 < _; omega
    rintro v h₃ tk₃ hk₃ ⟨start, tst, rfl, hstart⟩
    have F₃ := F₂.keeps hk₃
    have N₃ := N₂.grown hk₃
    clear F₂ N₂
    obtain ⟨st1, st2, st3, st4⟩ := split_at hsort hhi hpre hstart
    iterate 14 (walk_at "w")
    rename Fr _ L _ _ => F₁
    rename News _ L _ _ => N₁
    rename_i fnd0 _ _ _ _ _ _ _ _
    rcases Nat.lt_or_ge k its.length with hki | hki
    · rename _ < fnd0 ∧ _ < fnd0 => lf0
      refine cutK (Lf2 s L o ps fnd0 nm pa S hi start tst tk3) (fun K hK => ?_) ?_
      · iterate 9 (walk_at "w")
        rename Fr _ L _ _ => F₁
        refine PyProof.Rows.len_list (hp'.at fun o e => F₁.keep _ o e) (by rw [List.size_toArray]; omega) ?_
        iterate 2 (walk_at "w")
        rw [if_neg (by rw [List.size_toArray]; simp; omega)]
        iterate 2 (walk_at "w")
        rename Fr _ L _ _ => F₁
        rename News _ L _ _ => N₁
        exact hK _ ⟨_, _, _, rfl, F₁, fun p hp => N₁ p (.tail _ hp), rfl, rfl, rfl, rfl, rfl, rfl⟩
      clear F₁ N₁
      rintro _ ⟨h₄, tk₄, mm, rfl, F₄, N₄, e1, e2, e3, e4, e5, e6⟩
      have hT₄ : LamTab h₄ ps := ht.keeps e101 (fun b o hb e => F₄.keep b o (hide_keep e hb))
      have hIL : h₄.objs.size ≠ L := Nat.ne_of_gt F₄.ns.lt
      have hIg : (hideAll s.heap [101]).get? h₄.objs.size = none := next_is_new F₄
      have lI : fnd0 < h₄.objs.size ∧ L + 1 < h₄.objs.size ∧ 101 < h₄.objs.size := ⟨Heap.lt_size (N₄.get (.head _)), Heap.lt_size (N₄.get (.tail _ (.head _))), Heap.lt_size (N₄.get (.tail _ (.tail _ (.head _))))⟩
      obtain ⟨IT, hIT⟩ : ∃ IT, IT = h₄.objs.size := ⟨_, rfl⟩
      refine cutK (Lf3 s L o hi lo k its st xs) (fun K hK => ?_) ?_
      · refine For_str rfl ?_
        walk_at "w"
        dsimp only
        rw [← hIT] at lI hIL hIg ⊢
        refine ⟨_, _, fun i s' => Lf4 s L o nm pa S hi lo k i start tst tk3 its st xs IT s', rfl, by decide +kernel, ?_, ?_, ?_⟩
        · intro oI
          exact ⟨_, _, mm, ps, fnd0, 0, [], rfl, F₄.push oI, fun p hp => ⟨Heap.get?_push_of_some _ (N₄ p hp).1, (N₄ p hp).2⟩, lf0.2, Nat.ne_of_lt lI.1, hT₄.keeps (N₄.get (.tail _ (.tail _ (.head _)))) (fun b o _ e => Heap.get?_push_of_some _ e), by rw [cut_zero hki hpl hhi hlet hpre]; exact .nil, e1, e2, e3, e4, e5, e6⟩
        · clear F₄ N₄ e1 e2 e3 e4 e5 e6 hT₄
          rintro i v s₅ h₁ tk₁ oI hi4 hv ⟨h, tk, m, ps₅, Df, nf, ys, rfl, F, N, lDf, hDI, hT, hys, e1, e2, e3, e4, e5, e6⟩ hit hk hoI
          have hi4' : i < 4 := by
            have e : (Str.ofString "abcd").cps.size = 4 := by decide +kernel
            rw [e] at hi4; exact hi4
          obtain ⟨tsg, rfl⟩ := sign_abcd hi4' hv
          obtain ⟨F₁, N₁⟩ := off_it F N hk hIL hIg (by
            intro p hp
            replace hp := mem3 hp
            rcases hp with rfl | rfl | rfl
            · exact hDI
            · exact Nat.ne_of_lt lI.2.1
            · exact Nat.ne_of_lt lI.2.2)
          have hT₁ := hT.keepsX (no_lam_iter hit) hk
          have N₂ : News (hideAll s.heap [101]) L h₁ ([(IT, oI), (Df, listOf (List.toArray ys) nf), (L + 1, o)] ++ [(101, tabObj ps₅)]) := fun p hp => by
            rcases List.mem_cons.mp hp with rfl | hp
            · exact ⟨hoI, hIL, hIg⟩
            · exact N₁ p hp
          obtain ⟨c1, c2, Y₁⟩ := led_of F₁ N₂ (d := (L + 1, o)) (.tail _ (.tail _ (.head _))) hT₁
          clear hT hT₁ hk hoI F N N₁ N₂ hit
          refine wpAny_assign_Name (wpAny_storeName_local rfl F₁.ns (fun h₂ hn₂ hs₂ => ?_) rfl)
          have F₂ := F₁.set hn₂ hs₂
          have N₂ := Y₁.1.set hs₂
          obtain ⟨-, Y1, Y2, Y3, Y4, Y5⟩ := Y₁
          iterate 10 (walk_at "w")
          obtain ⟨tpk, hpk⟩ := hpkk hki
          refine' item_listL (l := pvs) ?it1 (by omega) (by omega) (by simpa using hpk) ?_
          case it1 => exact hp'.at fun o e => F₂.keep _ o e
          iterate 4 (walk_at "w")
          refine' use (law_takes w _ _ ?tg ?td rfl its[k] _ i hi4' _ (hok _ (List.getElem_mem hki))) ?_
          case tg => exact G'.keeps F₂.keep
          case td => show dp + 1 + 2 < _; omega
          rintro v h₃ tk₃ hk₃ rfl
          have F₃ := F₂.keeps hk₃
          have N₃ := N₂.grown hk₃
          clear F₂ N₂
          walk_at "w"
          by_cases hn : (its[k]'hki).has (97 + i) = true
          · rw [if_pos hn]
            iterate 15 (walk_at "w")
            have hne3 : ∀ p ∈ [(IT, oI), (Df, listOf (List.toArray ys) nf), (L + 1, o)], p.1 ≠ 101 := by
              intro p hp
              replace hp := mem3 hp
              rcases hp with rfl | rfl | rfl
              · exact Nat.ne_of_gt lI.2.2
              · exact Nat.ne_of_gt lDf
              · exact Nat.ne_of_gt (Nat.lt_succ_of_lt (hL ▸ lt101))
            refine lam_go true (k := k) (tk1 := tk1) (pre := [(IT, oI), (Df, listOf (List.toArray ys) nf), (L + 1, o)]) G' F₃ ⟨N₃, Y1, Y2, Y3, Y4, Y5⟩ hne3 (.tail _ (.tail _ (.head _))) ho rfl rfl (by kernel_rfl) rfl fun lf lfo h₅ tk₅ ps₆ c3 c4 F₅ Y₅ lt₅ K₅ => ?_
            clear F₃ N₃ Y1 Y2 Y3 Y4 Y5
            obtain ⟨N₅, Y1, Y2, Y3, Y4, Y5⟩ := Y₅
            iterate 2 (walk_at "w")
            have hkey : ∀ lo', start ≤ lo' → ∀ y, (∃ i, lo' ≤ i ∧ i < hi ∧ y = xs.getD i Str.empty) → ∃ l, y = txt l ∧ k < l.length ∧ l.length ≤ 1000 := by
              rintro lo' hlo' _ ⟨j, j1, j2, rfl⟩
              obtain ⟨c, r, e⟩ := st4 j (by omega) j2
              refine ⟨_, e, by simp; omega, ?_⟩
              have hy : xs[j]'(by omega) ∈ xs := List.getElem_mem _
              have := hlong _ hy
              rw [show xs[j]'(by omega) = xs.getD j Str.empty by simp [List.getD, show j < xs.length by omega], e, txt_cps] at this
              exact this
            show wpAny _ _ (call (.ref 58) [.ref nm, .str (txt [97 + i]) tsg, .int start tst, .int hi tk3] [(Str.ofString "key", .ref lf)]) _ _ _
            refine' use (bisLK w _ _ ?bg 1 0 ?bd ?bu nm lf vs xs ?bl hx (txt [97 + i]) _ start hi _ _ st2 hhi hsz (keyAt k) ?bk) ?_
            case bg => exact G'.keeps F₅.keep
            case bl => exact hn'.at fun o e => F₅.keep _ o e
            case bk => exact K₅.mono (hkey start (Nat.le_refl _))
            case bd => show dp + 1 + _ < _; omega
            case bu => show un + _ + _ < _; omega
            rintro v h₆ tk₆ hk₆ ⟨first, tfi, rfl, f1, f2, f3, f4⟩
            have F₆ := F₅.keeps hk₆
            have N₆ := N₅.grown hk₆
            clear F₅ N₅ K₅
            iterate 17 (walk_at "w")
            rename Fr _ L _ _ => F₇
            rename News _ L _ _ => N₇
            have hne4 : ∀ p ∈ [(lf, lfo), (IT, oI), (Df, listOf (List.toArray ys) nf), (L + 1, o)], p.1 ≠ 101 := by
              intro p hp
              rcases List.mem_cons.mp hp with rfl | hp
              · exact Nat.ne_of_gt (Nat.lt_trans lI.2.2 (lt₅ _ (.head _)))
              · exact hne3 p hp
            refine lam_go false (k := k) (tk1 := tk1) (pre := [(lf, lfo), (IT, oI), (Df, listOf (List.toArray ys) nf), (L + 1, o)]) G' F₇ ⟨N₇, Y1, Y2, Y3, Y4, Y5⟩ hne4 (.tail _ (.tail _ (.tail _ (.head _)))) ho rfl rfl (by kernel_rfl) rfl fun lg lgo h₈ tk₈ ps₉ c5 c6 F₈ Y₈ lt₈ K₈ => ?_
            clear F₇ N₇ Y1 Y2 Y3 Y4 Y5
            obtain ⟨N₈, Y1, Y2, Y3, Y4, Y5⟩ := Y₈
            iterate 2 (walk_at "w")
            show wpAny _ _ (call (.ref 49) [.ref nm, .str (txt [97 + i]) tsg, .int first tfi, .int hi tk3] [(Str.ofString "key", .ref lg)]) _ _ _
            refine' use (bisRK w _ _ ?bg 1 0 ?bd ?bu nm lg vs xs ?bl hx (txt [97 + i]) _ first hi _ _ f2 hhi hsz (keyAt k) ?bk) ?_
            case bg => exact G'.keeps F₈.keep
            case bl => exact hn'.at fun o e => F₈.keep _ o e
            case bk => exact K₈.mono (hkey first f1)
            case bd => show dp + 1 + _ < _; omega
            case bu => show un + _ + _ < _; omega
            rintro v h₉ tk₉ hk₉ ⟨last, tla, rfl, g1, g2, g3, g4⟩
            have F₉ := F₈.keeps hk₉
            have N₉ := N₈.grown hk₉
            clear F₈ N₈ K₈
            obtain ⟨hcut, hpre2⟩ := cut_take (st := st) hki hpl hhi hlet hpre hsort ⟨st1, st2⟩ st3 st4 hn f1 f2 f3 f4 g1 g2 g3 g4
            iterate 26 (walk_at "w")
            rename Fr _ L _ _ => F₁₀
            rename News _ L _ _ => N₁₀
            have hT₁₀ := lam_from F₁₀ N₁₀ (e1 := c5) (e2 := c6) (by k_mem) (by k_mem) Y3 Y1 Y2
            have h101n := N₁₀ (101, tabObj ps₉) (by k_mem)
            refine wpAny_mono (ih hki _ _ (hideAll s.heap [101]) G' F₁₀.keep hide_none ps₉ h101n.1 hT₁₀ vs pv nn np (F₁₀.keep _ _ (hide_keep hn0 n101)) hx (F₁₀.keep _ _ (hide_keep hp p101)) hpv ?rd ?ru rfl first last (by omega) _ _ _ (p ++ [97 + i]) (by simp; omega) hpre2) (fun v s₁₁ hpost => ?_) (fun _ _ x => x.elim)
            case rd => exact deeper2 hd hki
            case ru => exact units2 hu hki (by decide)
            obtain ⟨h₁₁, tk₁₁, ps₁₁, D2, n2, ys2, rfl, rfl, hk₁₁, e₁₁, hT₁₁, hnew, hD2, hys2⟩ := hpost
            have F₁₁ := fr_ext F₁₀ hk₁₁ h101n.2.1 h101n.2.2
            have N₁₁ : News (hideAll s.heap [101]) L h₁₁ ([(D2, listOf (List.toArray ys2) n2), (IT, oI), (Df, listOf (List.toArray ys) nf), (L + 1, o)] ++ [(101, tabObj ps₁₁)]) := fun p hp => by
              rcases List.mem_cons.mp hp with rfl | hp
              · refine ⟨hD2, fun q => ?_, ?_⟩
                · obtain ⟨o', es, ep, e, _⟩ := F₁₀.ns
                  have q' : D2 = L := q
                  rw [q'] at hnew
                  have := hnew.symm.trans e
                  cases this
                · cases e : (hideAll s.heap [101]).get? D2 with
                  | none => rfl
                  | some o' => have := F₁₀.keep _ _ e; have := hnew.symm.trans this; cases this
              · rcases List.mem_append.mp (show p ∈ [(IT, oI), (Df, listOf (List.toArray ys) nf), (L + 1, o)] ++ [(101, tabObj ps₁₁)] from hp) with hp | hp
                · have n := N₁₀ p (.tail _ (.tail _ (List.mem_append_left _ hp)))
                  exact ⟨hk₁₁ _ _ (hne3 p hp) n.1, n.2⟩
                · rw [List.mem_singleton.mp hp]; exact ⟨e₁₁, h101n.2⟩
            obtain ⟨c7, c8, Y₁₁⟩ := led_of F₁₁ N₁₁ (d := (L + 1, o)) (by k_mem) hT₁₁
            clear F₁₀ N₁₀ Y1 Y2 Y3 Y4 Y5 N₁₁ hk₁₁ e₁₁ hT₁₁ hT₁₀ h101n hnew
            obtain ⟨N₁₁, Y1, Y2, Y3, Y4, Y5⟩ := Y₁₁
            refine add_arrays F₁₁ N₁₁ (N₁₁.isList (.tail _ (.tail _ (.head _)))) (N₁₁.isList (.head _)) (fun h₁₂ F₁₂ N₁₂ => ?_) ?asz
            case asz =>
              have := strs_len hys
              have := strs_len hys2
              have := cut_len its st xs k lo hi i
              have := fnd_len its st xs (k + 1) first last
              rw [sizeLine_eq, List.size_toArray, List.size_toArray]; omega
            have lIT : IT < h₁₁.objs.size := Heap.lt_size (N₁₁.get (.tail _ (.head _)))
            clear F₁₁ N₁₁
            iterate 4 (walk_at "w")
            rename Fr _ L _ _ => F₁₃
            rename News _ L _ _ => N₁₃
            exact NextR.mk ⟨⟨_, _, _, ps₁₁, _, 0, ys ++ ys2, rfl, F₁₃, fun p hp => N₁₃ p (by
              replace hp := mem3 hp
              rcases hp with rfl | rfl | rfl
              · exact .head _
              · k_mem
              · k_mem), Nat.lt_trans lI.2.2 lIT, Nat.ne_of_gt lIT, lam_from F₁₃ N₁₃ (e1 := c7) (e2 := c8) (by k_mem) (by k_mem) Y3 Y1 Y2, by rw [hcut]; exact hys.append' hys2, e1, e2, e3, e4, e5, rfl⟩, N₁₃.get (.tail _ (.tail _ (.head _)))⟩
          · rw [if_neg hn]
            iterate 2 (walk_at "w")
            have hT₃ : LamTab h₃ ps₅ := lam_from F₃ N₃ (e1 := c1) (e2 := c2) (by k_mem) (by k_mem) Y3 Y1 Y2
            exact NextR.mk ⟨⟨_, _, _, ps₅, Df, nf, ys, rfl, F₃, fun p hp => N₃ p (by replace hp := mem3 hp; rcases hp with rfl | rfl | rfl <;> k_mem), lDf, hDI, hT₃, by rw [cut_skip hki hpl hhi hlet hpre (eq_false_of_ne_true hn)]; exact hys, e1, e2, e3, e4, e5, e6⟩, N₃.get (.head _)⟩
        · rintro s₅ h₁ tk₁ ⟨h, tk, m, ps₅, Df, nf, ys, rfl, F, N, lDf, hDI, hT, hys, e1, e2, e3, e4, e5, e6⟩ hit hk
          obtain ⟨F₁, N₁⟩ := off_it F N hk hIL hIg (by
            intro p hp
            replace hp := mem3 hp
            rcases hp with rfl | rfl | rfl
            · exact hDI
            · exact Nat.ne_of_lt lI.2.1
            · exact Nat.ne_of_lt lI.2.2)
          exact hK _ ⟨h₁, tk₁, m, ps₅, Df, nf, ys, rfl, F₁, N₁, lDf, hT.keepsX (no_lam_iter hit) hk, by rw [← cut_four hki hpl hhi hlet hpre]; exact hys, e6⟩
      · clear F₄ N₄ e1 e2 e3 e4 e5 e6
        rintro _ ⟨h, tk, m, ps', Df, nf, ys, rfl, F₁, N₁, lDf, hLT', hys, e6⟩
        iterate 3 (walk_at "w")
        exact ⟨h, _, ps', Df, nf, ys, rfl, rfl, fun b o hb e => F₁.keep b o (hide_keep e hb), N₁.get (.tail _ (.tail _ (.head _))), hLT', newAt F₁ N₁ lDf, N₁.get (.head _), hys⟩
    · have hki' : k = its.length := by omega
      have hst : st = false := by cases st; rfl; exact absurd ⟨hki', rfl⟩ hii
      iterate 10 (walk_at "w")
      rename Fr _ L _ _ => F₁
      refine PyProof.Rows.len_list (hp'.at fun o e => F₁.keep _ o e) (by rw [List.size_toArray]; omega) ?_
      iterate 2 (walk_at "w")
      rename News _ L _ _ => N₀'
      have hT101 := N₀'.get (.tail _ (.tail _ (.tail _ (.head _))))
      rw [if_pos (by rw [List.size_toArray, hpsz, hki', hst]; simp)]
      iterate 12 (walk_at "w")
      rename Fr _ L _ _ => F₁
      rename News _ L _ _ => N₁
      rename _ ∧ _ < _ ∧ 101 < _ => l3
      rw [pick_run2 st1 (by omega)] at N₁
      exact ⟨_, _, ps, _, 0, _, rfl, rfl, fun b o hb e => F₁.keep b o (hide_keep e hb), N₁.get (.tail _ (.tail _ (.tail _ (.tail _ (.head _))))), ht.keeps e101 (fun b o hb e => F₁.keep b o (hide_keep e hb)), newAt F₁ N₁ (Nat.lt_succ_of_lt (Heap.lt_size hT101)), N₁.get (.head _), by rw [hst, fnd_end hki' hpl hsort hhi hpre hstart]; exact (hx.drop' lo).take' (start - lo)⟩
theorem law_found (w : World) (its : List Item) (hok : ∀ it ∈ its, it.ok) (hlen : its.length ≤ 3) (st : Bool) (S nm pa : Addr) (xs : List Str) (hsz : xs.length < 1000) (hlet : ∀ y ∈ xs, ∀ c ∈ y.cps.toList, IsLetter c) (hlong : ∀ y ∈ xs, y.cps.toList.length ≤ 1000) (hsort : Sorted xs) :
    ∀ fuel k, its.length = k + fuel → LF w its st S nm pa xs k
  | 0, k, h => lf_step w its hok hlen st S nm pa xs hsz hlet hlong hsort k (by omega) fun q => absurd q (by omega)
  | fuel + 1, k, h => lf_step w its hok hlen st S nm pa xs hsz hlet hlong hsort k (by omega) fun _ => law_found w its hok hlen st S nm pa xs hsz hlet hlong hsort fuel (k + 1) (by omega)
end Mine

end

section
open PySem PySem.W PyProof.Rows PySem.Calls
namespace Mine
theorem fr_but {g h h' : Heap} {L : Addr} {m m' : Str → Option Value} {news : List (Addr × Obj)} (F : Fr g L h m) (N : News g L h news) (hk : ∀ b o, b ≠ L → h.get? b = some o → h'.get? b = some o) (hns : h'.Ns L m') : Fr g L h' m' ∧ News g L h' news := by
  refine ⟨⟨hns, fun b o e => hk b o (fun q => ?_) (F.keep b o e), F.above⟩, news_apart N fun p hp o e => hk _ _ (N p hp).2.1 e⟩
  subst q
  exact absurd (Heap.lt_size e) (Nat.not_lt.mpr F.above)
theorem comp_fr {g h h' : Heap} {L D : Addr} {m m' : Str → Option Value} {news : List (Addr × Obj)} {o : Obj} (F : Fr g L h m) (N : News g L h news) (hk : ∀ b o, b ≠ L → h.get? b = some o → h'.get? b = some o) (hns : h'.Ns L m') (hD : h.objs.size ≤ D) (e : h'.get? D = some o) :
    Fr g L h' m' ∧ News g L h' ((D, o) :: news) ∧ ∀ p ∈ news, p.1 < D := by
  obtain ⟨F', N'⟩ := fr_but F N hk hns
  exact ⟨F', news_new F N' hD e, fun p hp => Nat.lt_of_lt_of_le (Heap.lt_size (N p hp).1) hD⟩
theorem int_at {vs : List Value} {ns : List Int} (h : IntsAre vs ns) {i : Nat} {v : Value} (e : vs[i]? = some v) : ∃ n t, v = .int n t := by
  have hl : i < ns.length := by rw [← h.length]; exact (List.getElem?_eq_some_iff.mp e).1
  obtain ⟨t, h'⟩ := h.get i ns[i] (by simp [hl])
  rw [e] at h'
  exact ⟨_, t, Option.some.inj h'⟩
section
variable {prog : Program} {w : World} {A : Around} {Q : Flow → Shared → Prop} {s : Shared} {env : Env}
/-- for x in a list: I says of each state what holds between the turns -/
theorem For_list {x : Str} {px pos : Pos} {iter : PySem.Expr} {body : List Stmt} (hh : A.handled = none)
    (h : wpAny (model prog w) A (eval iter env) (fun xv s₁ => ∃ (D : Addr) (vs : List Value) (k : Nat) (I : Nat → Shared → Prop), xv = .ref D ∧ s₁.heap.get? D = some (listOf vs.toArray k) ∧
      (∀ oI : Obj, I 0 { s₁ with heap := s₁.heap.push oI }) ∧
      (∀ i v s' h₁ tk₁ oI, vs[i]? = some v → I i s' → (∀ b o, b ≠ s₁.heap.objs.size → s'.heap.get? b = some o → h₁.get? b = some o) → h₁.get? s₁.heap.objs.size = some oI → h₁.get? D = some (listOf vs.toArray k) →
        wpAny (model prog w) A (assign (.Name x px) env v) (fun _ s₂ => wpAny (model prog w) A (execs body env) (NextR fun s₃ => I (i + 1) s₃ ∧ s₃.heap.get? s₁.heap.objs.size = some oI ∧ s₃.heap.get? D = some (listOf vs.toArray k)) (fun _ _ => False) s₂) (fun _ _ => False) { s' with heap := h₁, toks := tk₁ }) ∧
      (∀ s' h₁ tk₁, I vs.length s' → (∀ b o, b ≠ s₁.heap.objs.size → s'.heap.get? b = some o → h₁.get? b = some o) → Q .next { s' with heap := h₁, toks := tk₁ })) (fun _ _ => False) s)
    (hs : ∀ x, foldedSetIterable iter env x = pure x := by intro _; rfl) :
    wpAny (model prog w) A (exec (.For (.Name x px) iter body [] pos) env) Q (fun _ _ => False) s := by
  refine wpAny_For (wpAny_mono h (fun xv s₁ h₁ => ?_) fun _ _ e => e) hs
  obtain ⟨D, vs, k, I, rfl, hD, I0, turn, done⟩ := h₁
  have hl : s₁.heap.IsList D vs.toArray := ⟨_, hD, rfl, _, rfl⟩
  have hlt : D < s₁.heap.objs.size := Heap.lt_size hD
  refine wpAny_pyIter_list hl ?_
  have W := Walks.list (prog := prog) (w := w) hh s₁.heap.objs.size D (Nat.ne_of_lt hlt) vs.toArray
  have hlen : vs.toArray.size = vs.length := by simp
  rw [hlen] at W
  refine codeAny_forLoop (R := fun r s' => match r with | .ok f => Q f s' | .error e => cameBackBy (model prog w) A env (fun _ _ => False) e s')
    (fun n s' => ∃ i, i ≤ vs.length ∧ n = vs.length + 1 - i ∧ (s'.heap.IsListIter s₁.heap.objs.size D i ∧ s'.heap.get? D = some (listOf vs.toArray k)) ∧ I i s') ?_ (vs.length + 1)
    ⟨0, Nat.zero_le _, rfl, ⟨⟨_, Heap.get?_push_size _ rfl, rfl, rfl⟩, Heap.get?_push_of_some _ hD⟩, I0 _⟩
  rintro n s' ⟨i, hi, rfl, ⟨hst, hL⟩, hI⟩
  have hst' : s'.heap.IsListIter s₁.heap.objs.size D i ∧ s'.heap.IsList D vs.toArray := ⟨hst, ⟨_, hL, rfl, _, rfl⟩⟩
  by_cases hlt' : i < vs.length
  · refine W.item i _ _ _ hlt' hst' fun v h₁ tk₁ hP hst₁ hk₁ => ?_
    obtain ⟨⟨oI, e, r⟩, _⟩ := hst₁
    have hL₁ := hk₁ D _ (by simp; exact Nat.ne_of_lt hlt) hL
    refine wpAny_mono (turn i v s' h₁ tk₁ oI (by simpa using hP) hI (fun b o hb e => hk₁ b o (by simpa using hb) e) e hL₁) (fun _ s₂ h₂ => ?_) fun _ _ x => x.elim
    refine wpAny_mono h₂ (fun f s₃ h₃ => ?_) fun _ _ x => x.elim
    obtain ⟨rfl, hI', e', eL⟩ := h₃
    exact ⟨vs.length + 1 - (i + 1), by omega, i + 1, hlt', rfl, ⟨⟨oI, e', r⟩, eL⟩, hI'⟩
  · have hin : i = vs.length := by omega
    subst hin
    refine W.done _ _ _ hst' fun h₁ tk₁ hk₁ => wpAny_execs_nil ?_
    exact done s' h₁ tk₁ hI fun b o hb e => hk₁ b o (by simpa using hb) e
end
/-- an insertion keeps a list of names sorted -/
theorem sorted_ins {xs : List Str} {x : Str} {r : Nat} (hs : Sorted xs) (h : RightAt xs x 0 xs.length r) : Sorted (xs.take r ++ x :: xs.drop r) := by
  obtain ⟨_, h2, h3, h4⟩ := h
  have g : ∀ j, (xs.take r ++ x :: xs.drop r).getD j Str.empty = if j < r then xs.getD j Str.empty else if j = r then x else xs.getD (j - 1) Str.empty := fun j => by
    rw [List.getD_eq_getElem?_getD, List.getElem?_append, List.length_take, Nat.min_eq_left h2]
    by_cases a : j < r
    · rw [if_pos a, if_pos a, List.getElem?_take, if_pos a, List.getD_eq_getElem?_getD]
    · rw [if_neg a, if_neg a]
      by_cases b : j = r
      · subst b; simp
      · rw [if_neg b]
        obtain ⟨d, rfl⟩ : ∃ d, j = r + 1 + d := ⟨j - (r + 1), by omega⟩
        rw [show r + 1 + d - r = d + 1 by omega, List.getElem?_cons_succ, List.getElem?_drop, List.getD_eq_getElem?_getD]
        rw [show r + 1 + d - 1 = r + d by omega]
  have hlen : (xs.take r ++ x :: xs.drop r).length = xs.length + 1 := by rw [List.length_append, List.length_take, List.length_cons, List.length_drop]; omega
  have below : ∀ i, i < r → ¬ x.cps.toList < (xs.getD i Str.empty).cps.toList := fun i hi => by
    rcases h3 with h3 | h3
    · omega
    exact not_lt_trans (hs i (r - 1) (by omega) (by omega)) (of_decide_eq_false h3)
  have above : ∀ i, r ≤ i → i < xs.length → x.cps.toList < (xs.getD i Str.empty).cps.toList := fun i hi hl => by
    rcases h4 with h4 | h4
    · omega
    have h5 : x.cps.toList < (xs.getD r Str.empty).cps.toList := of_decide_eq_true h4
    exact Classical.byContradiction fun q => not_lt_trans (hs r i hi hl) q h5
  intro i j hij hj
  rw [hlen] at hj
  rw [g, g]
  by_cases a : j < r
  · rw [if_pos a, if_pos (by omega)]; exact hs i j hij (by omega)
  · rw [if_neg a]
    by_cases b : j = r
    · subst b
      rw [if_pos rfl]
      by_cases c : i < j
      · rw [if_pos c]; exact below i c
      · rw [if_neg c, if_pos (by omega)]; exact List.lt_irrefl _
    · rw [if_neg b]
      by_cases c : i < r
      · rw [if_pos c]; exact hs i (j - 1) (by omega) (by omega)
      · rw [if_neg c]
        by_cases d : i = r
        · rw [if_pos d]; exact List.lt_asymm (above (j - 1) (by omega) (by omega))
        · rw [if_neg d]; exact hs (i - 1) (j - 1) (by omega) (by omega)
theorem perm_ins {xs : List Str} {x : Str} {r : Nat} : (xs.take r ++ x :: xs.drop r).Perm (x :: xs) := by
  have := (List.perm_middle (a := x) (l₁ := xs.take r) (l₂ := xs.drop r))
  rwa [List.take_append_drop] at this
theorem sorted_nil : Sorted [] := fun i j _ h => absurd h (Nat.not_lt_zero _)
theorem IsName.short {y : Str} (h : IsName y) : y.cps.toList.length ≤ 1000 := by have := h.1; simp; omega
/-- items and the values that stand for them -/
inductive ItemsAt (tl : List (Addr × Obj)) : List Item → List Value → Prop
  | nil : ItemsAt tl [] []
  | cons {it v its vs} : ItemAt tl it v → ItemsAt tl its vs → ItemsAt tl (it :: its) (v :: vs)
theorem ItemsAt.mono {tl tl' : List (Addr × Obj)} (k : ∀ p ∈ tl, p ∈ tl') : ∀ {its : List Item} {vs : List Value}, ItemsAt tl its vs → ItemsAt tl' its vs
  | _, _, .nil => .nil
  | _, _, .cons h r => .cons (h.mono k) (r.mono k)
theorem ItemsAt.append {tl : List (Addr × Obj)} {it : Item} {v : Value} (h : ItemAt tl it v) : ∀ {its : List Item} {vs : List Value}, ItemsAt tl its vs → ItemsAt tl (its ++ [it]) (vs ++ [v])
  | _, _, .nil => .cons h .nil
  | _, _, .cons h' r => .cons h' (r.append h)
theorem ItemsAt.len {tl : List (Addr × Obj)} : ∀ {its : List Item} {vs : List Value}, ItemsAt tl its vs → vs.length = its.length
  | _, _, .nil => rfl
  | _, _, .cons _ r => by simp [r.len]
theorem ItemsAt.ok {tl : List (Addr × Obj)} : ∀ {its : List Item} {vs : List Value}, ItemsAt tl its vs → ∀ it ∈ its, it.ok
  | _, _, .nil => fun _ h => nomatch h
  | _, _, .cons h r => fun it hi => by
    rcases List.mem_cons.mp hi with rfl | hi
    · exact h.1
    · exact r.ok it hi
theorem ItemsAt.at {tl : List (Addr × Obj)} {its : List Item} {vs : List Value} (h : ItemsAt tl its vs) : ∀ {i : Nat} {v : Value}, vs[i]? = some v → ∃ it, its[i]? = some it ∧ ItemAt tl it v := by
  induction h with
  | nil => intro i v e; cases e
  | cons h _ ih =>
    intro i v e
    cases i with
    | zero => cases e; exact ⟨_, rfl, h⟩
    | succ i => exact ih (by simpa using e)
/-- two objects are enough for an item -/
theorem item_two {tl : List (Addr × Obj)} {it : Item} {v : Value} (h : ItemAt tl it v) : ∃ a b, a ∈ tl ∧ b ∈ tl ∧ ItemAt [a, b] it v := by
  obtain ⟨ok, T, mv, n, t1, t2, e, m, r⟩ := h
  cases it with
  | lit c => exact ⟨_, _, r, r, ok, T, mv, n, t1, t2, e, m, .head _⟩
  | any => exact ⟨_, _, r, r, ok, T, mv, n, t1, t2, e, m, .head _⟩
  | set neg l hh mo =>
    obtain ⟨T2, ys, n2, e2, m2, hy⟩ := m
    exact ⟨_, _, r, m2, ok, T, mv, n, t1, t2, e, ⟨T2, ys, n2, e2, .tail _ (.head _), hy⟩, .head _⟩
/-- six places for what the items are made of -/
theorem six {α : Type} {tl : List α} (h : tl.length ≤ 6) (h1 : 1 ≤ tl.length) : ∃ e1 e2 e3 e4 e5 e6, (∀ p ∈ tl, p ∈ [e1, e2, e3, e4, e5, e6]) ∧ ∀ p ∈ [e1, e2, e3, e4, e5, e6], p ∈ tl := by
  match tl, h, h1 with
  | [a], _, _ => exact ⟨a, a, a, a, a, a, List.forall_mem_cons.2 ⟨by k_mem, (fun _ h => nomatch h)⟩, List.forall_mem_cons.2 ⟨by k_mem, List.forall_mem_cons.2 ⟨by k_mem, List.forall_mem_cons.2 ⟨by k_mem, List.forall_mem_cons.2 ⟨by k_mem, List.forall_mem_cons.2 ⟨by k_mem, List.forall_mem_cons.2 ⟨by k_mem, (fun _ h => nomatch h)⟩⟩⟩⟩⟩⟩⟩
  | [a, b], _, _ => exact ⟨a, b, a, a, a, a, List.forall_mem_cons.2 ⟨by k_mem, List.forall_mem_cons.2 ⟨by k_mem, (fun _ h => nomatch h)⟩⟩, List.forall_mem_cons.2 ⟨by k_mem, List.forall_mem_cons.2 ⟨by k_mem, List.forall_mem_cons.2 ⟨by k_mem, List.forall_mem_cons.2 ⟨by k_mem, List.forall_mem_cons.2 ⟨by k_mem, List.forall_mem_cons.2 ⟨by k_mem, (fun _ h => nomatch h)⟩⟩⟩⟩⟩⟩⟩
  | [a, b, c], _, _ => exact ⟨a, b, c, a, a, a, List.forall_mem_cons.2 ⟨by k_mem, List.forall_mem_cons.2 ⟨by k_mem, List.forall_mem_cons.2 ⟨by k_mem, (fun _ h => nomatch h)⟩⟩⟩, List.forall_mem_cons.2 ⟨by k_mem, List.forall_mem_cons.2 ⟨by k_mem, List.forall_mem_cons.2 ⟨by k_mem, List.forall_mem_cons.2 ⟨by k_mem, List.forall_mem_cons.2 ⟨by k_mem, List.forall_mem_cons.2 ⟨by k_mem, (fun _ h => nomatch h)⟩⟩⟩⟩⟩⟩⟩
  | [a, b, c, d], _, _ => exact ⟨a, b, c, d, a, a, List.forall_mem_cons.2 ⟨by k_mem, List.forall_mem_cons.2 ⟨by k_mem, List.forall_mem_cons.2 ⟨by k_mem, List.forall_mem_cons.2 ⟨by k_mem, (fun _ h => nomatch h)⟩⟩⟩⟩, List.forall_mem_cons.2 ⟨by k_mem, List.forall_mem_cons.2 ⟨by k_mem, List.forall_mem_cons.2 ⟨by k_mem, List.forall_mem_cons.2 ⟨by k_mem, List.forall_mem_cons.2 ⟨by k_mem, List.forall_mem_cons.2 ⟨by k_mem, (fun _ h => nomatch h)⟩⟩⟩⟩⟩⟩⟩
  | [a, b, c, d, e], _, _ => exact ⟨a, b, c, d, e, a, List.forall_mem_cons.2 ⟨by k_mem, List.forall_mem_cons.2 ⟨by k_mem, List.forall_mem_cons.2 ⟨by k_mem, List.forall_mem_cons.2 ⟨by k_mem, List.forall_mem_cons.2 ⟨by k_mem, (fun _ h => nomatch h)⟩⟩⟩⟩⟩, List.forall_mem_cons.2 ⟨by k_mem, List.forall_mem_cons.2 ⟨by k_mem, List.forall_mem_cons.2 ⟨by k_mem, List.forall_mem_cons.2 ⟨by k_mem, List.forall_mem_cons.2 ⟨by k_mem, List.forall_mem_cons.2 ⟨by k_mem, (fun _ h => nomatch h)⟩⟩⟩⟩⟩⟩⟩
  | [a, b, c, d, e, f], _, _ => exact ⟨a, b, c, d, e, f, List.forall_mem_cons.2 ⟨by k_mem, List.forall_mem_cons.2 ⟨by k_mem, List.forall_mem_cons.2 ⟨by k_mem, List.forall_mem_cons.2 ⟨by k_mem, List.forall_mem_cons.2 ⟨by k_mem, List.forall_mem_cons.2 ⟨by k_mem, (fun _ h => nomatch h)⟩⟩⟩⟩⟩⟩, List.forall_mem_cons.2 ⟨by k_mem, List.forall_mem_cons.2 ⟨by k_mem, List.forall_mem_cons.2 ⟨by k_mem, List.forall_mem_cons.2 ⟨by k_mem, List.forall_mem_cons.2 ⟨by k_mem, List.forall_mem_cons.2 ⟨by k_mem, (fun _ h => nomatch h)⟩⟩⟩⟩⟩⟩⟩
  | _ :: _ :: _ :: _ :: _ :: _ :: _ :: _, h, _ => exact absurd h (by simp)
theorem join_txts (its : List Item) : Txt.join (Str.ofString "") (its.map fun it => txt it.text) = txt ((its.map Item.text).flatten) := by
  have := join_cps (its.map fun it => txt it.text)
  refine PySem.Str.ext' (Array.toList_inj.mp ?_)
  rw [this, txt_cps, List.map_map]
  rfl
theorem sum_txts : ∀ its : List Item, (∀ it ∈ its, it.ok) → ((its.map fun it => txt it.text).map (·.length)).sum ≤ 7 * its.length
  | [], _ => by simp
  | it :: r, h => by
    have h1 := text_len it (h it (.head _))
    have h2 := sum_txts r fun y hy => h y (.tail _ hy)
    simp only [List.map_cons, List.sum_cons, List.length_cons, txt_len] at *
    omega
/-- a list came, a table grew, all else stands -/
theorem after_tab {g h h' : Heap} {L P D : Addr} {m : Str → Option Value} {o o' oD : Obj} {pre : List (Addr × Obj)} (F : Fr g L h m) (N : News g L h (pre ++ [(P, o)])) (hk : ∀ b o, b ≠ P → h.get? b = some o → h'.get? b = some o) (e : h'.get? P = some o') (hne : ∀ p ∈ pre, p.1 ≠ P) (hnew : h.get? D = none) (hD : h'.get? D = some oD) :
    Fr g L h' m ∧ News g L h' ((D, oD) :: pre ++ [(P, o')]) := by
  have hP := N (P, o) (List.mem_append_right _ (.head _))
  have F' := fr_ext F hk hP.2.1 hP.2.2
  have N' := news_ext N hk e hne
  refine ⟨F', fun p hp => ?_⟩
  rcases List.mem_cons.mp hp with rfl | hp
  · refine ⟨hD, fun q => ?_, ?_⟩
    · obtain ⟨o', es, ep, e', _⟩ := F.ns
      have q' : D = L := q
      rw [q'] at hnew
      exact absurd (e'.symm.trans hnew) (fun z => nomatch z)
    · cases e' : g.get? D with
      | none => rfl
      | some o' => exact absurd ((F.keep _ _ e').symm.trans hnew) (fun z => nomatch z)
  · exact N' p hp
theorem after77 {g h h' : Heap} {L D : Addr} {m : Str → Option Value} {o o' oD : Obj} {pre : List (Addr × Obj)} (F : Fr g L h m) (N : News g L h (pre ++ [(77, o)])) (hk : ∀ b o, b ≠ 77 → h.get? b = some o → h'.get? b = some o) (e : h'.get? 77 = some o') (hne : ∀ p ∈ pre, p.1 ≠ 77) (hnew : h.get? D = none) (hD : h'.get? D = some oD) :
    Fr g L h' m ∧ News g L h' ((D, oD) :: pre ++ [(77, o')]) := after_tab F N hk e hne hnew hD
theorem use2 {α : Type} {M : Model} {A : Around} {t : Sem α} {s : Shared} {P Q : α → Shared → Prop} {E : Value → Shared → Prop} (c : wpAny M A t P (fun _ _ => False) s) (h : ∀ v s', P v s' → Q v s') : wpAny M A t Q E s := wpAny_mono c h fun _ _ x => x.elim
end Mine

end

section
open PySem PySem.W PyProof.Rows PySem.Calls
namespace Mine
def leS (a b : Str) : Prop := ¬ b.cps.toList < a.cps.toList
theorem leS_trans {a b c : Str} (h1 : leS a b) (h2 : leS b c) : leS a c := not_lt_trans h1 h2
theorem leS_anti {a b : Str} (h1 : leS a b) (h2 : leS b a) : a = b :=
  PySem.Str.ext' (Array.toList_inj.mp (List.le_antisymm (List.not_lt.mp h1) (List.not_lt.mp h2)))
theorem pairs_of_sorted {xs : List Str} (h : Sorted xs) : xs.Pairwise leS := by
  rw [List.pairwise_iff_getElem]
  intro i j hi hj hij
  have := h i j (Nat.le_of_lt hij) hj
  simpa [List.getD, hi, hj, leS] using this
theorem pairs_of_rising : ∀ (l : List Str) (p : Str), risingS p l = true → (p :: l).Pairwise leS
  | [], p, _ => List.pairwise_singleton _ _
  | x :: r, p, h => by
    have h' : Spec.ltCps x.cps.toList p.cps.toList = false ∧ risingS x r = true := by
      unfold risingS at h
      simpa using h
    obtain ⟨h1, h2⟩ := h'
    rw [ltCps_eq] at h1
    have ih := pairs_of_rising r x h2
    have hpx : leS p x := of_decide_eq_false h1
    refine List.pairwise_cons.mpr ⟨fun y hy => ?_, ih⟩
    rcases List.mem_cons.mp hy with rfl | hy
    · exact hpx
    · exact leS_trans hpx (List.rel_of_pairwise_cons ih hy)
theorem pairs_of_sortedS : ∀ (l : List Str), sortedS l = true → l.Pairwise leS
  | [], _ => .nil
  | x :: r, h => pairs_of_rising r x h
theorem sorted_same {xs ys ds : List Str} (h : Sorted xs) (p : xs.Perm ds) (q : ys.Perm ds) (s : sortedS ys = true) : ys = xs :=
  List.Perm.eq_of_pairwise (le := leS) (fun a b _ _ h1 h2 => leS_anti h1 h2) (pairs_of_sortedS ys s) (pairs_of_sorted h) (q.trans p.symm)
theorem reads_strs {h : Heap} : ∀ {vs : List Value} {ss : List Str}, StrsAre vs ss → ReadsAll h vs (ss.map .str) []
  | _, _, .nil => .nil
  | _, _, .cons y t r => .cons (.str y t) (reads_strs r)
theorem reads_app {h : Heap} : ∀ {vs ws : List Value} {ds es : List PyData} {as bs : List Addr}, ReadsAll h vs ds as → ReadsAll h ws es bs → ∃ cs, ReadsAll h (vs ++ ws) (ds ++ es) cs
  | _, _, _, _, _, _, .nil, r => ⟨_, r⟩
  | _, _, _, _, _, _, .cons h1 h2, r => let ⟨_, h3⟩ := reads_app h2 r; ⟨_, .cons h1 h3⟩
theorem lay_strs : ∀ {ss : List Str}, (∀ y ∈ ss, PyData.strOk y = true) → PyData.canLayAll0 (ss.map .str) = true
  | [], _ => rfl
  | x :: r, h => by
    show (PyData.strOk x && PyData.canLayAll0 (r.map .str)) = true
    rw [h x (.head _), lay_strs fun y hy => h y (.tail _ hy)]; rfl
theorem depth_strs : ∀ ss : List Str, PyData.depthAll (ss.map .str) = 0
  | [] => rfl
  | x :: r => by
    show max 0 (PyData.depthAll (r.map .str)) = 0
    rw [depth_strs r]; rfl
theorem depth_app : ∀ (a b : List PyData), PyData.depthAll (a ++ b) = max (PyData.depthAll a) (PyData.depthAll b)
  | [], b => by show _ = max 0 _; simp
  | x :: r, b => by
    show max (PyData.depth x) (PyData.depthAll (r ++ b)) = max (max (PyData.depth x) (PyData.depthAll r)) _
    rw [depth_app r b]; exact (Nat.max_assoc _ _ _).symm
theorem lay_app : ∀ (a b : List PyData), PyData.canLayAll0 a = true → PyData.canLayAll0 b = true → PyData.canLayAll0 (a ++ b) = true
  | [], b, _, h => h
  | x :: r, b, h1, h2 => by
    have h' : (PyData.canLay0 x && PyData.canLayAll0 r) = true := h1
    rw [Bool.and_eq_true] at h'
    show (PyData.canLay0 x && PyData.canLayAll0 (r ++ b)) = true
    rw [h'.1, lay_app r b h'.2 h2]; rfl
theorem name_ok {y : Str} (h : ∀ c ∈ y.cps.toList, c < 128) : PyData.strOk y = true := by
  unfold PyData.strOk
  rw [← Array.all_toList, List.all_eq_true]
  intro c hc
  have := h c hc
  exact decide_eq_true (by omega)
section
variable {prog : Program} {w : World} {A : Around} {E : Value → Shared → Prop} {s : Shared}
/-- two lists of a list of names and a list of parts, the same -/
theorem cmp_lists {a nm pl b sd qd : Addr} {vs pvs svs qvs : List Value} {n np e k ka kb : Nat} {xs : List Str} {pd : List PyData} {as bs : List Addr} {Q : Value → Shared → Prop}
    (hA : s.heap.get? a = some (listOf #[.ref nm, .ref pl] ka)) (hnm : s.heap.get? nm = some (listOf vs.toArray n)) (hpl : s.heap.get? pl = some (listOf pvs.toArray np))
    (hB : s.heap.get? b = some (listOf #[.ref sd, .ref qd] kb)) (hsd : s.heap.get? sd = some (listOf svs.toArray e)) (hqd : s.heap.get? qd = some (listOf qvs.toArray k))
    (hv : StrsAre vs xs) (hs : StrsAre svs xs) (hp : ReadsAll s.heap pvs pd as) (hq : ReadsAll s.heap qvs pd bs) (ok : ∀ y ∈ xs, PyData.strOk y = true) (okp : PyData.canLayAll0 pd = true) (dp : PyData.depthAll pd ≤ 8) (hu : A.units + 64 < cLine)
    (h : Q (.bool false) s) : wpAny (model prog w) A (compareOp .NotEq (.ref a) (.ref b)) Q E s := by
  have r1 : Reads s.heap (.ref a) (.list [.list (xs.map .str), .list pd]) _ := .list hA rfl rfl (.cons (.list hnm rfl rfl (reads_strs hv)) (.cons (.list hpl rfl rfl hp) .nil))
  have r2 : Reads s.heap (.ref b) (.list [.list (xs.map .str), .list pd]) _ := .list hB rfl rfl (.cons (.list hsd rfl rfl (reads_strs hs)) (.cons (.list hqd rfl rfl hq) .nil))
  have l : PyData.canLay0 (.list [.list (xs.map .str), .list pd]) = true := by
    show (PyData.canLayAll0 (xs.map .str) && (PyData.canLayAll0 pd && true)) = true
    rw [lay_strs ok, okp]; rfl
  have d : SeqAt.shaped (.list [.list (xs.map .str), .list pd]) = true := by
    unfold SeqAt.shaped
    rw [l, Bool.true_and]
    refine decide_eq_true ?_
    show max (PyData.depthAll (xs.map .str) + 1) (max (PyData.depthAll pd + 1) 0) + 1 ≤ 64
    rw [depth_strs]; omega
  refine ne_dataH r1 r2 d d hu ?_
  rw [SeqAt.eqv_refl _ l]
  exact h
/-- two lists of the same names -/
theorem eq_strs {a b : Addr} {vs ws : List Value} {n k : Nat} {xs : List Str} {Q : Value → Shared → Prop} (ha : s.heap.get? a = some (listOf vs.toArray n)) (hb : s.heap.get? b = some (listOf ws.toArray k))
    (hv : StrsAre vs xs) (hw : StrsAre ws xs) (ok : ∀ y ∈ xs, PyData.strOk y = true) (hu : A.units + 64 < cLine) (h : Q (.bool true) s) : wpAny (model prog w) A (compareOp .Eq (.ref a) (.ref b)) Q E s := by
  have l : PyData.canLay0 (.list (xs.map .str)) = true := lay_strs ok
  have d : SeqAt.shaped (.list (xs.map .str)) = true := by
    unfold SeqAt.shaped
    rw [l, Bool.true_and]
    refine decide_eq_true ?_
    show PyData.depthAll (xs.map .str) + 1 ≤ 64
    rw [depth_strs]; omega
  refine eq_dataH (.list ha rfl rfl (reads_strs hv)) (.list hb rfl rfl (reads_strs hw)) d d hu ?_
  rw [SeqAt.eqv_refl _ l]
  exact h
end
theorem part_ok {it : Item} (ok : it.ok) : PyData.strOk (txt it.part) = true := by
  refine name_ok fun c hc => ?_
  rw [txt_cps] at hc
  cases it with
  | lit d => obtain ⟨h1, h2⟩ := ok; simp [Item.part] at hc; omega
  | any => simp [Item.part] at hc; omega
  | set neg l hh mo =>
    obtain ⟨⟨l1, l2⟩, ⟨h1, h2⟩, hm⟩ := ok
    have hl : ∀ c ∈ left l hh mo, c < 128 := by
      intro c hc
      unfold left at hc
      rcases hm with rfl | ⟨mc, rfl, m1, m2⟩ <;> split at hc <;> simp at hc <;> omega
    by_cases q : left l hh mo = []
    · cases neg
      · rw [part_e0 q] at hc; simp at hc; omega
      · rw [part_e1 q] at hc; simp at hc; omega
    · obtain ⟨d, r, e⟩ : ∃ d r, left l hh mo = d :: r := by
        cases h : left l hh mo with
        | nil => exact absurd h q
        | cons d r => exact ⟨d, r, rfl⟩
      rw [e] at hl
      cases neg
      · rw [part_c0 e] at hc
        rcases List.mem_cons.mp hc with rfl | hc
        · decide
        · rcases List.mem_append.mp hc with hc | hc
          · exact hl c hc
          · rw [List.mem_singleton.mp hc]; decide
      · rw [part_c1 e] at hc
        rcases List.mem_cons.mp hc with rfl | hc
        · decide
        · rcases List.mem_cons.mp hc with rfl | hc
          · decide
          · rcases List.mem_append.mp hc with hc | hc
            · exact hl c hc
            · rw [List.mem_singleton.mp hc]; decide
theorem name_okN {y : Str} (h : IsName y) : PyData.strOk y = true := name_ok fun c hc => by
  obtain ⟨h1, h2⟩ := h.2 c hc
  omega
def IsRT (b : Bool) (s : Shared) (ok : Bool) (s' : Shared) : Prop := ok = b ∧ ∃ k, s' = { s with toks := k }
theorem tests_isT {prog : Program} {w : World} {A : Around} {cenv : Env} {c : PySem.Expr} {s : Shared} {Q : Bool → Shared → Prop} (b : Bool) (h : wpAny (model prog w) A (isTrue c cenv (eval c cenv)) (IsRT b s) (fun _ _ => False) s) (h2 : ∀ k, Q b { s with toks := k }) : wpAny (model prog w) A (testsOf [c] cenv) Q (fun _ _ => False) s :=
  tests_one (wpAny_mono h (fun ok s' ⟨e, k, es⟩ => by subst e; subst es; exact h2 k) fun _ _ x => x)
end Mine

end

section
open PySem PySem.W PyProof.Rows PySem.Calls
namespace Mine
section
variable {M : Model} {A : Around} {E : Value → Shared → Prop} {s : Shared}
/-- the environment of a comprehension with cells of its own -/
theorem newEnv_cells {scope : Scope} {globals : Addr} {cl : List (Str × Addr)} {qual : Str} {env : Env} {Q : Env → Shared → Prop}
    (hQ : Q { scope, locals := s.heap.objs.size, globals, cells := cellsFrom (s.heap.objs.size + 1) scope.names cl, qual, func := none, code := env.code, frame := env.frame, builtins := env.builtins } { s with heap := pushCells (s.heap.push { cls := .type "dict", data := .dict #[] }) scope.names }) :
    wpAny M A (newFunctionEnv scope globals cl [] qual none .none (some env)) Q E s := by
  simp only [newFunctionEnv, Option.isSome_some, if_true]
  refine wpAny_bind (wpAny_alloc ?_)
  refine wpAny_bind (wpAny_layCells _ (fun name kind cells => by cases hkc : kind == NameKind.cell <;> simp [hkc]) _ _ _ _ ?_)
  rw [show ({ s with heap := s.heap.push { cls := .type "dict", data := .dict #[] } } : Shared).heap.objs.size = s.heap.objs.size + 1 from Heap.size_push ..]
  rw [List.forIn_nil]
  exact wpAny_bind (wpAny_pure (wpAny_pure hQ))
end
section
variable {prog : Program} {w : World} {A : Around}
/-- the comprehension's own cell -/
def OwC (C : Addr) (ow : List (Addr × Obj)) : Prop := ∃ oc v, ow = [(C + 1, oc)] ∧ oc.data = .cell v
/-- the turns of a comprehension whose name is a cell -/
def TurnsO (prog : Program) (w : World) (A : Around) (env : Env) (scope : Scope) (cl : List (Str × Addr)) (elt target : Expr) (cn : Str) (ifs : List Expr) (s₁ : Shared) (n : Nat) (P : Nat → Value → Prop) (J : Nat → List Value → List (Addr × Obj) → Prop) : Prop :=
  ∀ g s₀ C i v h tk m oc cv bs ys tl, (∀ b o, s₁.heap.get? b = some o → g.get? b = some o) → (∃ h₀ , s₀ = { s₁ with heap := h₀ }) → s₁.heap.objs.size < C → i < n → P i v → J i ys tl → oc.data = .cell cv → (∀ p ∈ bs ++ tl, p.1 ≠ C + 1) → Fr g C h m → News g C h ((C + 1, oc) :: (bs ++ tl)) →
    wpAny (model prog w) A (assign target (compEnvC scope ((cn, C + 1) :: cl) C env) v) (fun _ s₄ => wpAny (model prog w) A (testsOf ifs (compEnvC scope ((cn, C + 1) :: cl) C env)) (fun ok s₅ =>
      if ok = true then wpAny (model prog w) A (eval elt (compEnvC scope ((cn, C + 1) :: cl) C env)) (fun y s₆ => After g C (OwC C) bs tl (J (i+1)) s₀ (ys ++ [y]) s₆) (fun _ _ => False) s₅
      else After g C (OwC C) bs tl (J (i+1)) s₀ ys s₅) (fun _ _ => False) s₄) (fun _ _ => False) { s₀ with heap := h, toks := tk }
theorem compBlockO {E : Value → Shared → Prop} {env : Env} {s₁ : Shared} {xv : Value} {elt target iter : Expr} {cn : Str} {ifs : List Expr} {scope : Scope} {cl : List (Str × Addr)} {pos : Pos} {n : Nat} {P : Nat → Value → Prop} {J : Nat → List Value → List (Addr × Obj) → Prop} {RR : Value → Addr → Result → Shared → Prop}
    (S : Src prog w A target xv s₁ n P) (hcl : ∀ n, cellsFrom n scope.names cl = (cn, n) :: cl) (hpush : ∀ h, pushCells h scope.names = h.push { cls := .type "cell", data := .cell none }) (hsz : n ≤ sizeLine) (hJ0 : J 0 [] []) (hJt : ∀ i ys tl, J i ys tl → tl = [])
    (turn : TurnsO prog w A env scope cl elt target cn ifs s₁ n P J)
    (fin : ∀ D C h' tk m ys k, J n ys [] → s₁.heap.objs.size ≤ D → s₁.heap.objs.size < C → D ≠ C → (∀ b o, s₁.heap.get? b = some o → h'.get? b = some o) → h'.get? D = some (listOf (List.toArray ys) k) → h'.Ns C m →
        RR (.ref D) C (.ok .next) { s₁ with heap := h', toks := tk }) :
    wpAny (model prog w) A (pyIter xv) (fun it s₂ => wpAny (model prog w) A (newList []) (fun acc s₃ => wpAny (model prog w) A (newFunctionEnv scope env.globals cl [] env.qual none .none (some env)) (fun cenv s₄ =>
      codeAny (model prog w) A (.compStart (.ListComp elt [⟨target, iter, ifs, 0⟩] scope pos) 0 it acc { cenv with scope := relabel scope env }) (RR acc cenv.locals) s₄) E s₃) E s₂) E s₁ := by
  refine S _ _ fun oI fp St W hfp' hof hlive' hst hgo => ?_
  generalize hs₂ : ({ s₁ with heap := s₁.heap.push oI } : Shared) = s₂
  have e₂ : s₂.heap = s₁.heap.push oI := by rw [← hs₂]
  have z₂ : s₂.heap.objs.size = s₁.heap.objs.size + 1 := by rw [e₂, Heap.size_push]
  have up₂ : ∀ b o, s₁.heap.get? b = some o → s₂.heap.get? b = some o := fun b o e => by rw [e₂]; exact Heap.get?_push_of_some _ e
  have hfp : ∀ b ∈ fp, ∃ o, s₂.heap.get? b = some o := fun b hb => by
    rcases hfp' b hb with rfl | ⟨o, e⟩
    · exact ⟨oI, by rw [e₂]; exact Heap.get?_push_size _ hof⟩
    · exact ⟨o, up₂ b o e⟩
  have hlive : ∀ i h, St i h → ∀ b ∈ [s₁.heap.objs.size], ∃ o, h.get? b = some o := fun i h st b hb => by rw [List.mem_singleton.mp hb]; exact hlive' i h st
  have hst : St 0 s₂.heap := by rw [e₂]; exact hst
  refine wpAny_newObj_type (newEnv_cells ?_)
  dsimp only
  generalize hH2 : s₂.heap.push { cls := .type "list", dict := none, data := .seq ([] : List Value).toArray } = H2
  rw [hcl, hpush]
  have hC : H2.objs.size = s₂.heap.objs.size + 1 := by rw [← hH2, Heap.size_push]
  have hDC : s₂.heap.objs.size < H2.objs.size := by rw [hC]; exact Nat.lt_succ_self _
  have hsb₁ : ∀ b o, H2.get? b = some o → ((H2.push { cls := .type "dict", data := .dict #[] }).push { cls := .type "cell", data := .cell none }).get? b = some o := fun b o e => Heap.get?_push_of_some _ (Heap.get?_push_of_some _ e)
  have hns₁ : ((H2.push { cls := .type "dict", data := .dict #[] }).push { cls := .type "cell", data := .cell none }).Ns H2.objs.size fun _ => none := (Heap.Ns.new H2 (.type "dict")).keeps fun b o e => Heap.get?_push_of_some _ e
  have hcell₁ : ((H2.push { cls := .type "dict", data := .dict #[] }).push { cls := .type "cell", data := .cell none }).get? (H2.objs.size + 1) = some { cls := .type "cell", data := .cell none } := by
    have := Heap.get?_push_size (H2.push { cls := .type "dict", data := .dict #[] }) (o := { cls := .type "cell", data := .cell none }) rfl
    rwa [Heap.size_push] at this
  generalize hh₁ : (H2.push { cls := .type "dict", data := .dict #[] }).push { cls := .type "cell", data := .cell none } = h₁ at hsb₁ hns₁ hcell₁ ⊢
  have old : ∀ b o, s₂.heap.get? b = some o → h₁.get? b = some o := fun b o e => hsb₁ b o (hH2 ▸ Heap.get?_push_of_some _ e)
  have fresh : ∀ a, s₂.heap.objs.size ≤ a → s₂.heap.get? a = none := fun a ha => by
    cases e : s₂.heap.get? a with
    | none => rfl
    | some o' => exact absurd (Heap.lt_size e) (Nat.not_lt.mpr ha)
  have freshH : ∀ a, s₂.heap.objs.size ≤ a → (hideAll s₂.heap [s₁.heap.objs.size]).get? a = none := fun a ha => by
    cases e : (hideAll s₂.heap [s₁.heap.objs.size]).get? a with
    | none => rfl
    | some o' => have := of_hideAll _ e; rw [fresh a ha] at this; cases this
  have upH : ∀ b o, s₁.heap.get? b = some o → (hideAll s₂.heap [s₁.heap.objs.size]).get? b = some o := fun b o e => hide_keep (up₂ b o e) (Nat.ne_of_lt (Heap.lt_size e))
  have F₁ : Fr (hideAll s₂.heap [s₁.heap.objs.size]) H2.objs.size h₁ (fun _ => none) := ⟨hns₁, fun b o e => old b o (of_hideAll _ e), by rw [hideAll_size]; exact Nat.le_of_lt hDC⟩
  have eD : h₁.get? s₂.heap.objs.size = some (listOf #[] 0) := hsb₁ _ _ (hH2 ▸ Heap.get?_push_size _ rfl)
  have N₁ : News (hideAll s₂.heap [s₁.heap.objs.size]) H2.objs.size h₁ ([(H2.objs.size + 1, { cls := .type "cell", data := .cell none })] ++ [(s₂.heap.objs.size, listOf #[] 0)]) := fun p hp => by
    rcases List.mem_cons.mp hp with rfl | hp
    · exact ⟨hcell₁, Nat.ne_of_gt (Nat.lt_succ_self _), freshH _ (by dsimp only; omega)⟩
    · rw [List.mem_singleton.mp hp]
      exact ⟨eD, Nat.ne_of_lt hDC, freshH _ (Nat.le_refl _)⟩
  have st₁ : St 0 h₁ := W.frame _ _ _ hst fun b _ o e => old b o e
  have sz1 : s₁.heap.objs.size < H2.objs.size := by omega
  have loop : ∀ s₃ : Shared, s₃ = { s₂ with heap := h₁ } →
      codeAny (model prog w) A (.compLoop (.ListComp elt [⟨target, iter, ifs, 0⟩] scope pos) 0 (.ref s₁.heap.objs.size) (.ref s₂.heap.objs.size) (compEnvC scope ((cn, H2.objs.size + 1) :: cl) H2.objs.size env))
        (RR (.ref s₂.heap.objs.size) H2.objs.size) s₃ := by
    rintro s₃ rfl
    refine compLoopR2 (tk₁ := s₂.toks) (Ow := OwC H2.objs.size) W hgo (fun ow ⟨oc, v, e, _⟩ p hp => by
        rw [e] at hp
        rw [List.mem_singleton.mp hp, List.mem_singleton]
        exact ⟨Nat.ne_of_gt (Nat.lt_succ_of_lt sz1), Nat.ne_of_gt (Nat.lt_succ_of_lt hDC)⟩) hlive hfp (fresh _ (Nat.le_refl _)) hDC (Nat.le_of_lt hDC) J
      (fun i v h tk m ow bs ys tl hi hv hJ how hw hD hbs F N => by
        obtain ⟨oc, cv, rfl, hoc⟩ := how
        obtain rfl := hJt _ _ _ hJ
        exact turn _ s₂ _ i v h tk m oc cv bs ys [] upH ⟨_, hs₂.symm⟩ sz1 hi hv hJ hoc (fun p hp => by
          rw [List.append_nil] at hp
          rcases hbs p hp with e | e
          · rw [e]; exact Nat.ne_of_lt (Nat.lt_succ_of_lt hDC)
          · rw [List.mem_singleton.mp e]; exact Nat.ne_of_lt (Nat.lt_succ_of_lt sz1)) F N) (fun h' tk m ow ys tl k hJ how F N htl => ?_) hsz st₁ F₁ N₁ ⟨_, _, rfl, rfl⟩ hJ0
    obtain ⟨oc, cv, rfl, hoc⟩ := how
    obtain rfl := hJt _ _ _ hJ
    have nD := N (s₂.heap.objs.size, listOf (List.toArray ys) k) (.tail _ (.head _))
    have := fin s₂.heap.objs.size H2.objs.size h' tk m ys k hJ (by omega) sz1 (Nat.ne_of_lt hDC) (fun b o e => F.keep b o (upH b o e)) nD.1 F.ns
    subst hs₂; exact this
  exact codeAny_compStart_list (loop _ rfl) (W.self 0 _ _ _ st₁ (loop _ rfl))
/-- y = [..], y a local of the line's own, the comprehension's name a cell -/
theorem assignCompO {E : Value → Shared → Prop} {env : Env} {s : Shared} {elt target iter : Expr} {cn : Str} {ifs : List Expr} {scope : Scope} {cl : List (Str × Addr)} {y : Str} {py pos spos : Pos} {Q : Flow → Shared → Prop}
    (hsw : swapsWith (.ListComp elt [⟨target, iter, ifs, 0⟩] scope pos) (some (.Name y py)) spos.line env = pure true)
    (hclos : closureFor scope env = pure cl) (hcl : ∀ n, cellsFrom n scope.names cl = (cn, n) :: cl) (hpush : ∀ h, pushCells h scope.names = h.push { cls := .type "cell", data := .cell none }) (hkind : scope.kind = .function)
    (hnames : ∀ y ∈ scope.names, y.2 = .local → scope.names.lookup y.1 = some .local)
    (hy : env.kindOf y = some .local) (hp : (env.scope.kind == .class || (env.scope.kind == .module && env.locals != env.globals)) = false)
    (h : wpAny (model prog w) A (eval iter env) (fun xv s₁ => ∃ (n : Nat) (P : Nat → Value → Prop) (J : Nat → List Value → List (Addr × Obj) → Prop) (m : Str → Option Value), Src prog w A target xv s₁ n P ∧ n ≤ sizeLine ∧ J 0 [] [] ∧ (∀ i ys tl, J i ys tl → tl = []) ∧ TurnsO prog w A env scope cl elt target cn ifs s₁ n P J ∧ s₁.heap.Ns env.locals m ∧
      (∀ D h' tk ys k, J n ys [] → s₁.heap.objs.size ≤ D → (∀ b o, b ≠ env.locals → s₁.heap.get? b = some o → h'.get? b = some o) → h'.get? D = some (listOf (List.toArray ys) k) → h'.Ns env.locals (fun z => if z = y then some (.ref D) else m z) →
        Q .next { s₁ with heap := h', toks := tk })) E s)
    (hs : ∀ x, foldedSetIterable iter env x = pure x := by intro _; rfl) :
    wpAny (model prog w) A (exec (.Assign [.Name y py] (.ListComp elt [⟨target, iter, ifs, 0⟩] scope pos) spos) env) Q E s := by
  rw [exec_Assign_Name_used _ _ _ _ hsw]
  refine wpAny_bind (wpAny_standAt (wpAny_bind ?_))
  show wpAny _ A (do let _ ← comprehension (.ListComp elt [⟨target, iter, ifs, 0⟩] scope pos) scope env _ (newList []) false (eval iter env) (some (assign (.Name y py) env))) _ _ s
  refine wpAny_bind (wpAny_mono (wpAny_comprehension_free (use := some (assign (.Name y py) env)) (Q := fun _ s' => Q .next s') rfl hs hclos hkind hnames
    (wpAny_mono h (fun xv s₁ h₁ => ?_) fun _ _ e => e)) (fun _ s' hq => wpAny_pure (wpAny_pure hq)) fun _ _ e => e)
  obtain ⟨n, P, J, m, S, hsz, hJ0, hJt, turn, hL, fin⟩ := h₁
  have lL := hL.lt
  refine compBlockO (RR := fun acc C => compPost (model prog w) A E (some (assign (.Name y py) env)) (fun _ s' => Q .next s') acc C) S hcl hpush hsz hJ0 hJt turn fun D C h' tk m' ys k hJ hD hC hDC hk eD hn => ?_
  show wpAny _ A (assign (.Name y py) env (.ref D)) _ _ _
  refine wpAny_assign_Name (wpAny_storeName_local hy (hL.keeps hk) (fun h₂ hn₂ hs₂ => ?_) hp)
  have hLD : D ≠ env.locals := Nat.ne_of_gt (Nat.lt_of_lt_of_le lL hD)
  have hLC : C ≠ env.locals := Nat.ne_of_gt (Nat.lt_trans lL hC)
  refine ⟨m', hn.sameBut hs₂ hLC, fun h'' hs'' => fin D h'' _ ys k hJ hD (fun b o hb e => ?_) (hs''.extBut _ _ hDC (hs₂.extBut _ _ hLD eD)) (hn₂.sameBut hs'' (Ne.symm hLC))⟩
  exact hs''.extBut b o (Nat.ne_of_lt (Nat.lt_trans (Heap.lt_size e) hC)) (hs₂.extBut b o hb (hk b o e))
end
/-- the first i items take the first i letters -/
def okTo (its : List Item) (l : List Nat) (i : Nat) : Bool := (List.range i).all fun j => match its[j]?, l[j]? with | some it, some c => it.has c | _, _ => true
theorem okTo_zero (its : List Item) (l : List Nat) : okTo its l 0 = true := rfl
theorem okTo_succ {its : List Item} {l : List Nat} {i : Nat} {it : Item} {c : Nat} (h1 : its[i]? = some it) (h2 : l[i]? = some c) : okTo its l (i + 1) = (okTo its l i && it.has c) := by
  unfold okTo
  rw [List.range_succ, List.all_append]
  simp [h1, h2]
theorem okTo_cons (it : Item) (its : List Item) (c : Nat) (l : List Nat) (i : Nat) : okTo (it :: its) (c :: l) (i + 1) = (it.has c && okTo its l i) := by
  unfold okTo
  rw [List.range_succ_eq_map, List.all_cons, List.all_map]
  rfl
theorem mt_okTo (st : Bool) : ∀ (its : List Item) (l : List Nat), mt st its l = ((decide (l.length = its.length) || (st && decide (its.length < l.length))) && okTo its l its.length)
  | [], l => by
    rw [mt, List.length_nil, okTo_zero, Bool.and_true]
    cases l with
    | nil => cases st <;> rfl
    | cons c r => cases st <;> simp
  | it :: its, [] => by rw [mt]; cases st <;> simp
  | it :: its, c :: l => by
    rw [mt, mt_okTo st its l, List.length_cons, List.length_cons, okTo_cons]
    have e1 : decide (l.length + 1 = its.length + 1) = decide (l.length = its.length) := decide_eq_decide.mpr (by omega)
    have e2 : decide (its.length + 1 < l.length + 1) = decide (its.length < l.length) := decide_eq_decide.mpr (by omega)
    rw [e1, e2]
    cases it.has c <;> simp
theorem due_fnd (its : List Item) (st : Bool) (xs : List Str) : (xs.filter fun y => decide (y.length = its.length) || (st && decide (its.length < y.length))).filter (fun y => okTo its y.cps.toList its.length) = fnd its st xs 0 0 xs.length := by
  unfold fnd
  rw [List.filter_filter, show (xs.drop 0).take (xs.length - 0) = xs by simp]
  refine List.filter_congr fun y _ => ?_
  rw [List.drop_zero, List.drop_zero, mt_okTo]
  show _ = ((decide (y.cps.toList.length = its.length) || (st && decide (its.length < y.cps.toList.length))) && _)
  rw [Array.length_toList]
  exact Bool.and_comm _ _
theorem tests_cut {prog : Program} {w : World} {A : Around} {cenv : Env} {c : PySem.Expr} {s : Shared} {Q : Bool → Shared → Prop} (R : Bool → Shared → Prop) (h : wpAny (model prog w) A (isTrue c cenv (eval c cenv)) R (fun _ _ => False) s) (h2 : ∀ ok s', R ok s' → Q ok s') : wpAny (model prog w) A (testsOf [c] cenv) Q (fun _ _ => False) s :=
  tests_one (wpAny_mono h h2 fun _ _ x => x)
theorem item_listA {prog : Program} {w : World} {A : Around} {E : Value → Shared → Prop} {s : Shared} {value slice : PySem.Expr} {a : Addr} {vs : List Value} {k : Int} {u : Tok} {v : Value} {Q : Value → Shared → Prop}
    (hl : s.heap.IsList a vs.toArray) (h0 : 0 ≤ k) (hhi : k < 2 ^ 63) (hx : vs[k.toNat]? = some v) (h : Q v s)
    (hs : subscripted slice false (.ref a) (.int k u) = operate [.ref a, .int k u] (getItem (.ref a) (.int k u)) := by with_unfolding_all rfl) :
    wpAny (model prog w) A (subscriptTail value slice (.ref a) (.int k u)) Q E s :=
  tail_any hl.typeIs slot_list_getitem.lookup (wpAny_getItem_list hl h0 hhi (by simpa using hx) h) hs
theorem gone_one (l : List Nat) (c : Nat) : (Builtin.Str.occurrences (txt l) (txt [c]) 0 (txt l).length 1).isEmpty = !decide (c ∈ l) := by
  have := StrLaws.found_one (txt l) c
  rw [txt_cps] at this
  rw [← this, Bool.not_not]
  rfl
theorem any_letters' (f : Nat → Bool) {c : Nat} (h : IsLetter c) : (letters f 4).any (· == txt [c]) = f c := by
  obtain ⟨h1, h2⟩ := h
  have := any_letters f (i := c - 97) (by omega)
  rw [show 97 + (c - 97) = c by omega] at this
  exact this
theorem news_ne {g h : Heap} {L a b : Addr} {oa ob : Obj} {news : List (Addr × Obj)} (N : News g L h news) (h1 : (a, oa) ∈ news) (h2 : (b, ob) ∈ news) (hc : oa.cls ≠ ob.cls) : a ≠ b := fun q => by
  subst q
  have := (N _ h1).1.symm.trans (N _ h2).1
  cases this
  exact hc rfl
end Mine

end

section
open PySem PySem.W PyProof.Rows PySem.Calls
namespace Mine
/-- what law leaves -/
def LawEnd (s s' : Shared) : Prop := (∀ b o, b ≠ 101 → b ≠ 77 → s.heap.get? b = some o → s'.heap.get? b = some o) ∧ (∃ ps, s'.heap.get? 101 = some (tabObj ps)) ∧ (∃ ps, s'.heap.get? 77 = some (tabObj ps)) ∧ s'.os = s.os ∧ AllBare s'.gens
def LawMain (w : World) : Prop := ∀ (s : Shared) (G : Gnd w (hideAll s.heap [101, 77])) (e101 : s.heap.get? 101 = some (tabObj #[])) (e77 : s.heap.get? 77 = some (tabObj #[])) (a : Addr) (vs : List Value) (ns : List Int) (hl : s.heap.IsList a vs.toArray) (hi : IntsAre vs ns) (h63 : ns.length ≤ 63) (hg : s.gens = #[]),
  wpAny (model PR w) callerA (call (.ref 111) [.ref a]) (fun v s' => v = .bool true ∧ LawEnd s s') (fun _ _ => False) s
theorem law_good {s s' : Shared} {cl : Str → Option Addr} {mean : ExcName → Option Value} {args : List WData} (hT : TabsAt [(105, 101), (81, 77)] s.heap) (e : LawEnd s s') : GoodWG PySem.Challenge.rw_in0020_01.row.claim cl mean args s (.ok (.ret (.bool true))) s' := by
  obtain ⟨hk, ⟨p1, h1⟩, ⟨p2, h2⟩, hos, hg⟩ := e
  refine ⟨.inl ⟨.bool true, ofPy (.bool true), [], rfl, raisesW_false (fun _ h => nomatch h), readsW_of_reads (.bool true), ?_, unshared_nil⟩, ⟨fun b o e => ?_, fun b o e => ?_⟩, hos, hg⟩
  · exact postW_of (by wrow_shape) (by wtm_val) (by w_fin)
  · by_cases b1 : b = 101
    · subst b1
      obtain ⟨c, t⟩ := hT _ (.head _)
      have : o = tabObj #[] := Option.some.inj (e.symm.trans t)
      subst this
      exact .inr (.inl ⟨(c.tab t).isCodeTable, rfl, #[], p1, rfl, by rw [Array.empty_append]; exact h1⟩)
    · by_cases b2 : b = 77
      · subst b2
        obtain ⟨c, t⟩ := hT _ (.tail _ (.head _))
        have : o = tabObj #[] := Option.some.inj (e.symm.trans t)
        subst this
        exact .inr (.inl ⟨(c.tab t).isCodeTable, rfl, #[], p2, rfl, by rw [Array.empty_append]; exact h2⟩)
      · exact .inl (hk b o b1 b2 e)
  · by_cases b1 : b = 101
    · exact ⟨_, b1 ▸ h1⟩
    · by_cases b2 : b = 77
      · exact ⟨_, b2 ▸ h2⟩
      · exact ⟨o, hk b o b1 b2 e⟩
set_option maxRecDepth 100000 in
set_option maxHeartbeats 0 in
theorem law_holds (main : ∀ w, LawMain w) : PySem.Challenge.rw_in0020_01.Holds := hd (by
  k_fill
  intro w s₀ s₁ mg mb G Y fa o pm cd doc dV kV ho hd hcd hD hmg hg args vals as hpre hlay hrd hwl hlo
  have KX := km_in_of Y
  km_tabs Y
  refine Ground.open G ?_
  intro T B D TE TW
  wrow_args hpre hlay hrd hwl hlo
  have hfa : some (Value.ref fa) = some (Value.ref 111) := hmg.symm.trans (mg_of KX T.g (n := Str.ofString "law") (by kernel_rfl))
  have hfa : fa = 111 := by injection hfa with h; injection h
  subst hfa
  have e101 := hT8 101 (.head _)
  have e77 := hT8 77 (.tail _ (.head _))
  have c1 : CodeHd s₁.heap 105 101 := codeHd_of_K KX (by kernel_rfl)
  have c2 : CodeHd s₁.heap 81 77 := codeHd_of_K KX (by kernel_rfl)
  have hT : TabsAt [(105, 101), (81, 77)] s₁.heap := fun q hq => by
    rcases List.mem_cons.mp hq with rfl | hq
    · exact ⟨c1, e101⟩
    · rw [List.mem_singleton.mp hq]; exact ⟨c2, e77⟩
  have G' : Gnd w (hideAll s₁.heap [101, 77]) := ⟨ghost_K (tabs := [(105, 101), (81, 77)]) hT KX (by kernel_rfl), ⟨_, _, _, _, _, ghost_top (tabs := [(105, 101), (81, 77)]) hT T⟩, (ghost_code (tabs := [(105, 101), (81, 77)]) hT).1, (ghost_code (tabs := [(105, 101), (81, 77)]) hT).2.1⟩
  refine wpAny_mono (main w s₁ G' e101 e77 _ _ _ (by assumption) (by assumption) (by omega) hg) (fun v s' h => ?_) (fun _ _ x => x.elim)
  obtain ⟨rfl, e⟩ := h
  exact law_good hT e)
end Mine

end

theorem Mine.quiet_Lw : True := by
  w_top off
  trivial

section
open PySem PySem.W PyProof.Rows PySem.Calls
namespace Mine
theorem mem4 {α : Type _} {p a b c d : α} (H : p ∈ [a, b, c, d]) : p = a ∨ p = b ∨ p = c ∨ p = d := by simpa using H
theorem mem5 {α : Type _} {p a b c d e : α} (H : p ∈ [a, b, c, d, e]) : p = a ∨ p = b ∨ p = c ∨ p = d ∨ p = e := by simpa using H
theorem mem6 {α : Type _} {p a b c d e f : α} (H : p ∈ [a, b, c, d, e, f]) : p = a ∨ p = b ∨ p = c ∨ p = d ∨ p = e ∨ p = f := by simpa using H
theorem mem7 {α : Type _} {p a b c d e f g : α} (H : p ∈ [a, b, c, d, e, f, g]) : p = a ∨ p = b ∨ p = c ∨ p = d ∨ p = e ∨ p = f ∨ p = g := by simpa using H
theorem mem8 {α : Type _} {p a b c d e f g h : α} (H : p ∈ [a, b, c, d, e, f, g, h]) : p = a ∨ p = b ∨ p = c ∨ p = d ∨ p = e ∨ p = f ∨ p = g ∨ p = h := by simpa using H
theorem mem13 {α : Type _} {p a b c d e f g h i j k l m : α} (H : p ∈ [a, b, c, d, e, f, g, h, i, j, k, l, m]) : p = a ∨ p = b ∨ p = c ∨ p = d ∨ p = e ∨ p = f ∨ p = g ∨ p = h ∨ p = i ∨ p = j ∨ p = k ∨ p = l ∨ p = m := by simpa using H
theorem mem14 {α : Type _} {p a b c d e f g h i j k l m n : α} (H : p ∈ [a, b, c, d, e, f, g, h, i, j, k, l, m, n]) : p = a ∨ p = b ∨ p = c ∨ p = d ∨ p = e ∨ p = f ∨ p = g ∨ p = h ∨ p = i ∨ p = j ∨ p = k ∨ p = l ∨ p = m ∨ p = n := by simpa using H
theorem mem15 {α : Type _} {p a b c d e f g h i j k l m n o : α} (H : p ∈ [a, b, c, d, e, f, g, h, i, j, k, l, m, n, o]) : p = a ∨ p = b ∨ p = c ∨ p = d ∨ p = e ∨ p = f ∨ p = g ∨ p = h ∨ p = i ∨ p = j ∨ p = k ∨ p = l ∨ p = m ∨ p = n ∨ p = o := by simpa using H
inductive Lm1 (s : Shared) (g : Heap) (L : Nat) (a : Addr) (o1 : Obj) (o2 : Obj) (s' : Shared) : Prop
  | mk (h : Heap) (tk : Nat) (m : Str → Option Value) (DR : Addr) (nd : Nat) (dvs : List Value) (ds : List Str) (p1 : s' = { s with heap := h, toks := tk }) (p2 : Fr g L h m) (p3 : News g L h [(DR, listOf (List.toArray dvs) nd), (L + 1, o2), (L + 1 + 1, o1), (101, tabObj #[]), (77, tabObj #[])]) (p4 : StrsAre dvs ds) (p5 : (∀ y ∈ ds, IsName y)) (p6 : ds.length ≤ 17) (p7 : L + 1 + 1 < DR) (p8 : m (Str.ofString "script") = some (.ref a)) (p9 : m (Str.ofString "drawn") = some (.ref DR))
inductive Lm2 (s : Shared) (g : Heap) (L : Nat) (a : Addr) (o1 : Obj) (DR : Addr) (nd : Nat) (dvs : List Value) (s' : Shared) : Prop
  | mk (h : Heap) (tk : Nat) (m : Str → Option Value) (NM : Addr) (ST : Addr) (os : Obj) (st : Bool) (t0 : Tok) (p1 : s' = { s with heap := h, toks := tk }) (p2 : Fr g L h m) (p3 : News g L h [(ST, listOf #[.str (Str.ofString "*") t0] 0), (NM, listOf #[] 0), (DR, listOf (List.toArray dvs) nd), (L + 1, os), (L + 1 + 1, o1), (101, tabObj #[]), (77, tabObj #[])]) (p4 : os.data = .cell (some (.bool st))) (p5 : DR < NM) (p6 : NM < ST) (p7 : m (Str.ofString "drawn") = some (.ref DR)) (p8 : m (Str.ofString "names") = some (.ref NM)) (p9 : m (Str.ofString "star") = some (.ref ST)) (p10 : m (Str.ofString "script") = some (.ref a))
inductive Lm3 (s : Shared) (g : Heap) (L : Nat) (a : Addr) (o1 : Obj) (os : Obj) (DR : Addr) (NM : Addr) (ST : Addr) (nd : Nat) (dvs : List Value) (z : List Str) (t0 : Tok) (s' : Shared) : Prop
  | mk (h : Heap) (tk : Nat) (m : Str → Option Value) (vs : List Value) (xs : List Str) (n : Nat) (p1 : s' = { s with heap := h, toks := tk }) (p2 : Fr g L h m) (p3 : News g L h [(ST, listOf #[.str (Str.ofString "*") t0] 0), (NM, listOf (List.toArray vs) n), (DR, listOf (List.toArray dvs) nd), (L + 1, os), (L + 1 + 1, o1), (101, tabObj #[]), (77, tabObj #[])]) (p4 : StrsAre vs xs) (p5 : Sorted xs) (p6 : xs.Perm z) (p7 : m (Str.ofString "drawn") = some (.ref DR)) (p8 : m (Str.ofString "names") = some (.ref NM)) (p9 : m (Str.ofString "star") = some (.ref ST)) (p10 : m (Str.ofString "script") = some (.ref a))
inductive Lm4 (s : Shared) (g : Heap) (L : Nat) (a : Addr) (os : Obj) (DR : Addr) (NM : Addr) (ST : Addr) (nd : Nat) (n : Nat) (dvs : List Value) (vs : List Value) (t0 : Tok) (s' : Shared) : Prop
  | mk (h : Heap) (tk : Nat) (m : Str → Option Value) (IM : Addr) (ni : Nat) (ivs : List Value) (its : List Item) (oi : Obj) (q1 : Addr × Obj) (q2 : Addr × Obj) (q3 : Addr × Obj) (q4 : Addr × Obj) (q5 : Addr × Obj) (q6 : Addr × Obj) (p1 : s' = { s with heap := h, toks := tk }) (p2 : Fr g L h m) (p3 : News g L h [(IM, listOf (List.toArray ivs) ni), (ST, listOf #[.str (Str.ofString "*") t0] 0), (NM, listOf (List.toArray vs) n), (DR, listOf (List.toArray dvs) nd), (L + 1, os), (L + 1 + 1, oi), q1, q2, q3, q4, q5, q6, (101, tabObj #[]), (77, tabObj #[])]) (p4 : oi.data = .cell (some (.ref IM))) (p5 : ItemsAt [q1, q2, q3, q4, q5, q6] its ivs) (p6 : its.length ≤ 3) (p7 : 1 ≤ its.length) (p8 : ST < IM) (p9 : (∀ q ∈ [q1, q2, q3, q4, q5, q6], q.1 ≠ 101 ∧ q.1 ≠ 77)) (p10 : m (Str.ofString "drawn") = some (.ref DR)) (p11 : m (Str.ofString "names") = some (.ref NM)) (p12 : m (Str.ofString "star") = some (.ref ST)) (p13 : m (Str.ofString "script") = some (.ref a))
inductive Lm5 (s : Shared) (g : Heap) (L : Nat) (os : Obj) (oi : Obj) (DR : Addr) (NM : Addr) (ST : Addr) (IM : Addr) (nd : Nat) (n : Nat) (ni : Nat) (dvs : List Value) (vs : List Value) (ivs : List Value) (its : List Item) (st : Bool) (t0 : Tok) (q1 : Addr × Obj) (q2 : Addr × Obj) (q3 : Addr × Obj) (q4 : Addr × Obj) (q5 : Addr × Obj) (q6 : Addr × Obj) (s' : Shared) : Prop
  | mk (h : Heap) (gs : Array GenState) (tk : Nat) (m : Str → Option Value) (PL : Addr) (np : Nat) (pvs : List Value) (ps7 : Array Value) (p1 : s' = ⟨h, gs, s.drawn, tk, s.os⟩) (p2 : AllBare gs) (p3 : Fr g L h m) (p4 : News g L h [(PL, listOf (List.toArray pvs) np), (IM, listOf (List.toArray ivs) ni), (ST, listOf #[.str (Str.ofString "*") t0] 0), (NM, listOf (List.toArray vs) n), (DR, listOf (List.toArray dvs) nd), (L + 1, os), (L + 1 + 1, oi), q1, q2, q3, q4, q5, q6, (101, tabObj #[]), (77, tabObj ps7)]) (p5 : (if st = true then ∃ vs', pvs = vs' ++ [.ref ST] ∧ StrsAre vs' (its.map fun it => txt it.part) else StrsAre pvs (its.map fun it => txt it.part))) (p6 : m (Str.ofString "drawn") = some (.ref DR)) (p7 : m (Str.ofString "names") = some (.ref NM)) (p8 : m (Str.ofString "star") = some (.ref ST)) (p9 : m (Str.ofString "parts") = some (.ref PL))
inductive Lm6 (s : Shared) (g : Heap) (L : Nat) (os : Obj) (oi : Obj) (DR : Addr) (NM : Addr) (ST : Addr) (IM : Addr) (PL : Addr) (nd : Nat) (n : Nat) (ni : Nat) (np : Nat) (dvs : List Value) (vs : List Value) (ivs : List Value) (pvs : List Value) (t0 : Tok) (q1 : Addr × Obj) (q2 : Addr × Obj) (q3 : Addr × Obj) (q4 : Addr × Obj) (q5 : Addr × Obj) (q6 : Addr × Obj) (gs : Array GenState) (ps7 : Array Value) (s' : Shared) : Prop
  | mk (h : Heap) (tk : Nat) (m : Str → Option Value) (p1 : s' = ⟨h, gs, s.drawn, tk, s.os⟩) (p2 : Fr g L h m) (p3 : News g L h [(PL, listOf (List.toArray pvs) np), (IM, listOf (List.toArray ivs) ni), (ST, listOf #[.str (Str.ofString "*") t0] 0), (NM, listOf (List.toArray vs) n), (DR, listOf (List.toArray dvs) nd), (L + 1, os), (L + 1 + 1, oi), q1, q2, q3, q4, q5, q6, (101, tabObj #[]), (77, tabObj ps7)]) (p4 : m (Str.ofString "drawn") = some (.ref DR)) (p5 : m (Str.ofString "names") = some (.ref NM)) (p6 : m (Str.ofString "star") = some (.ref ST)) (p7 : m (Str.ofString "parts") = some (.ref PL))
inductive Lm7 (s : Shared) (g : Heap) (L : Nat) (os : Obj) (oi : Obj) (NM : Addr) (ST : Addr) (IM : Addr) (PL : Addr) (n : Nat) (ni : Nat) (np : Nat) (vs : List Value) (ivs : List Value) (pvs : List Value) (xs : List Str) (its : List Item) (st : Bool) (t0 : Tok) (q1 : Addr × Obj) (q2 : Addr × Obj) (q3 : Addr × Obj) (q4 : Addr × Obj) (q5 : Addr × Obj) (q6 : Addr × Obj) (gs : Array GenState) (ps7 : Array Value) (s' : Shared) : Prop
  | mk (h : Heap) (tk : Nat) (m : Str → Option Value) (WI : Addr) (nw : Nat) (wvs : List Value) (p1 : s' = ⟨h, gs, s.drawn, tk, s.os⟩) (p2 : Fr g L h m) (p3 : News g L h [(WI, listOf (List.toArray wvs) nw), (PL, listOf (List.toArray pvs) np), (IM, listOf (List.toArray ivs) ni), (ST, listOf #[.str (Str.ofString "*") t0] 0), (NM, listOf (List.toArray vs) n), (L + 1, os), (L + 1 + 1, oi), q1, q2, q3, q4, q5, q6, (101, tabObj #[]), (77, tabObj ps7)]) (p4 : StrsAre wvs (xs.filter fun y => decide (y.length = its.length) || (st && decide (its.length < y.length)))) (p5 : m (Str.ofString "names") = some (.ref NM)) (p6 : m (Str.ofString "star") = some (.ref ST)) (p7 : m (Str.ofString "parts") = some (.ref PL)) (p8 : m (Str.ofString "wide") = some (.ref WI))
inductive Lm8 (s : Shared) (g : Heap) (L : Nat) (NM : Addr) (ST : Addr) (PL : Addr) (n : Nat) (np : Nat) (vs : List Value) (pvs : List Value) (xs : List Str) (its : List Item) (st : Bool) (t0 : Tok) (gs : Array GenState) (ps7 : Array Value) (s' : Shared) : Prop
  | mk (h : Heap) (tk : Nat) (m : Str → Option Value) (DU : Addr) (nd : Nat) (dus : List Value) (p1 : s' = ⟨h, gs, s.drawn, tk, s.os⟩) (p2 : Fr g L h m) (p3 : News g L h [(DU, listOf (List.toArray dus) nd), (PL, listOf (List.toArray pvs) np), (ST, listOf #[.str (Str.ofString "*") t0] 0), (NM, listOf (List.toArray vs) n), (101, tabObj #[]), (77, tabObj ps7)]) (p4 : StrsAre dus (fnd its st xs 0 0 xs.length)) (p5 : m (Str.ofString "names") = some (.ref NM)) (p6 : m (Str.ofString "star") = some (.ref ST)) (p7 : m (Str.ofString "parts") = some (.ref PL)) (p8 : m (Str.ofString "due") = some (.ref DU))
theorem min8 {n : Nat} : min (min 10 n - 2) (n - 2) ≤ 8 := by omega
theorem translate' (w : World) (A : Around) (s : Shared) (g : Heap) (G : Gnd w g) (hg : ∀ b o, g.get? b = some o → s.heap.get? b = some o) (h77 : g.get? 77 = none) (ps : Array Value) (e77 : s.heap.get? 77 = some (tabObj ps)) (ht : TriplesOk ps.toList)
   (hd : A.depth + 4 < recursionLimit) (hh : A.handled = none) (its : List Item) (hok : ∀ it ∈ its, it.ok) (hlen : its.length ≤ 3) (hlen0 : 1 ≤ its.length) (st : Bool) (S : Addr) (t tq : Tok) (hgens : AllBare s.gens) (x q : Str) (hx : x = txt ((its.map Item.text).flatten ++ (if st = true then [42] else []))) (hq : q = txt [46]) :
   wpAny (model PR w) A (call (.ref 82) [.str x t, .ref S, .str q tq]) (fun v s' => TRpost s its st S v s') (fun _ _ => False) s := by
  subst hx; subst hq
  exact translate w A s g G hg h77 ps e77 ht hd hh its hok hlen hlen0 st S t tq hgens
set_option maxRecDepth 100000 in
set_option maxHeartbeats 0 in
theorem law_main (w : World) : LawMain w := by
  intro s G e101 e77 a vs ns hl hi h63 hg
  refine enterC (g := hideAll s.heap [101, 77]) G (fun b o e => of_hideAll _ e) (Nat.le_of_eq (hideAll_size _ _)) (ho := rfl) (hcd := rfl) (by decide +kernel) (bindsK (G.keeps fun b o e => of_hideAll _ e) (fun _ => rfl)) rfl (by decide) rfl rfl rfl ?_
  intro L h₁ tk cells hL F N Y hk₁
  obtain ⟨pp, loose, mean, mg, mb, T⟩ := G.t
  have X := G.x
  have hrow : PySem.Challenge.rw_in0020_01 = PySem.Challenge.rw_in0020_01 := rfl
  revert hrow X
  k_fill
  intro X hrow
  obtain ⟨o1, o2, rfl, d1, d2⟩ := CellsAre.two Y
  clear Y
  replace d1 : o1.data = .cell none := d1
  replace d2 : o2.data = .cell none := d2
  have na : a ∉ ([101, 77] : List Addr) := by
    obtain ⟨o, e, _, n, hd⟩ := hl
    intro q
    rcases List.mem_cons.mp q with rfl | q
    · rw [e101] at e; cases e; cases hd
    · rw [List.mem_singleton] at q; subst q; rw [e77] at e; cases e; cases hd
  have hl' : (hideAll s.heap [101, 77]).IsList a vs.toArray := let ⟨o, e, r⟩ := hl; ⟨o, hideAll_get _ e na, r⟩
  generalize hgd : hideAll s.heap [101, 77] = g at *
  have lt101 := Heap.lt_size e101
  have lt77 := Heap.lt_size e77
  have l101 : 101 < L := hL ▸ lt101
  have l77 : 77 < L := hL ▸ lt77
  have g101 : g.get? 101 = none := hgd ▸ hideAll_none _ (.head _)
  have g77 : g.get? 77 = none := hgd ▸ hideAll_none _ (.tail _ (.head _))
  have N₀ : News g L h₁ [(L + 1, o2), (L + 1 + 1, o1), (101, tabObj #[]), (77, tabObj #[])] := fun q hq => by
    replace hq := mem4 hq
    rcases hq with rfl | rfl | rfl | rfl
    · exact N _ (.tail _ (.head _))
    · exact N _ (.head _)
    · exact ⟨hk₁ _ _ e101, Nat.ne_of_lt (hL ▸ lt101), g101⟩
    · exact ⟨hk₁ _ _ e77, Nat.ne_of_lt (hL ▸ lt77), g77⟩
  clear N
  refine cutK (Lm1 s g L a o1 o2) (fun K hK => ?_) ?_
  · refine assignComp (cl := []) rfl rfl (by decide) rfl (by decide) rfl rfl ?_
    iterate 32 (walk_at "w")
    rename Fr _ L _ _ => F₁
    rename News _ L _ _ => N₁
    refine ⟨_, _, fun i ys tl => tl = [] ∧ ∃ ss : List Str, StrsAre ys ss ∧ ss.length = i ∧ ∀ y ∈ ss, IsName y, _, Src.list rfl (N₁.isList (.head _)), ?zs, ⟨rfl, [], .nil, rfl, fun _ h => nomatch h⟩, turns_name rfl rfl ?_, F₁.ns, ?_⟩
    case zs => rename IntsAre _ _ => hI; rw [hI.length, sizeLine_eq]; simp; omega
    · rintro g' s₀ C i v h₂ tk₂ m bs ys tl hg' ⟨h₀, rfl⟩ hC hi hv ⟨rfl, ss, hss, hlen, hP⟩ hD F₂ N₂
      rename IntsAre _ (_ ++ _) => hI
      obtain ⟨x, tx, rfl⟩ := int_at hI hv
      refine tests_nil ?_
      rw [if_pos rfl]
      have Gg : Gnd w g' := G.keeps fun b o e => hg' b o (F₁.keep b o e)
      have Xg := Gg.x
      obtain ⟨_, _, _, _, _, Tg⟩ := Gg.t
      clear F₁ N₁ X T hv hi
      dsimp only
      iterate 8 (walk_at "w")
      refine use (law_name w _ _ (Gg.keeps F₂.keep) ?ld rfl x tx) ?_
      case ld => show callerA.depth + 1 + 2 < recursionLimit; decide +kernel
      rintro v h₃ tk₃ hk₃ ⟨y, t', rfl, hy⟩
      exact After.none (F₂.keeps hk₃) (N₂.grown hk₃) ⟨rfl, ss ++ [y], hss.append' (.cons _ _ .nil), by simp [hlen], fun z hz => by
        rcases List.mem_append.mp hz with hz | hz
        · exact hP z hz
        · rw [List.mem_singleton.mp hz]; exact hy⟩
    · rintro D h₂ tk₂ ys tl k ⟨rfl, ss, hss, hlen, hP⟩ hD hk₂ eD hns -
      rename IntsAre _ (_ ++ _) => hI
      obtain ⟨F₂, N₂, hlt⟩ := comp_fr F₁ N₁ hk₂ hns hD eD
      refine hK _ ⟨h₂, tk₂, _, D, k, ys, ss, rfl, F₂, fun p hp => N₂ p ?_, hss, hP, by rw [hlen, hI.length]; simp; first | exact min8 | omega, hlt (L + 1 + 1, o1) (by k_mem), rfl, rfl⟩
      replace hp := mem5 hp
      rcases hp with rfl | rfl | rfl | rfl | rfl <;> k_mem
  clear F N₀
  rintro _ ⟨h, tk, m, DR, nd, dvs, ds, rfl, F, N, hds, hdn, hdl, lDR, e1, e2⟩
  refine cutK (Lm2 s g L a o1 DR nd dvs) (fun K hK => ?_) ?_
  · iterate 46 (walk_at "w")
    rename Fr _ L _ _ => F₁
    rename News _ L _ _ => N₁
    refine hK _ ⟨_, _, _, _, _, _, _, _, rfl, F₁, fun p hp => N₁ p (.tail _ (.tail _ hp)), by assumption, ?_, ?_, e2, rfl, rfl, e1⟩
    · show @LT.lt Nat _ _ _; omega
    · show @LT.lt Nat _ _ _; omega
  clear F N e1 e2
  rintro _ ⟨h, tk, m, NM, ST, os, st, t0, rfl, F, N, ds0, lNM, lST, e1, e2, e3, e4⟩
  have hIL : h.objs.size ≠ L := Nat.ne_of_gt F.ns.lt
  have hIg : g.get? h.objs.size = none := next_is_new F
  have lI : (ST : Nat) < h.objs.size ∧ (NM : Nat) < h.objs.size ∧ (DR : Nat) < h.objs.size ∧ L + 1 + 1 < h.objs.size := ⟨Heap.lt_size (N.get (.head _)), Heap.lt_size (N.get (.tail _ (.head _))), Heap.lt_size (N.get (.tail _ (.tail _ (.head _)))), Heap.lt_size (N.get (.tail _ (.tail _ (.tail _ (.tail _ (.head _))))))⟩
  obtain ⟨IT, hIT⟩ : ∃ IT, IT = h.objs.size := ⟨_, rfl⟩
  refine cutK (Lm3 s g L a o1 os DR NM ST nd dvs ds t0) (fun K hK => ?_) ?_
  · refine For_list rfl ?_
    walk_at "w"
    dsimp only
    rw [← hIT] at lI hIL hIg ⊢
    refine ⟨DR, dvs, nd, fun i s' => Lm3 s g L a o1 os DR NM ST nd dvs (ds.take i) t0 s', rfl, N.get (.tail _ (.tail _ (.head _))), ?_, ?_, ?_⟩
    · intro oI
      exact ⟨_, _, m, [], [], 0, rfl, F.push oI, fun p hp => ⟨Heap.get?_push_of_some _ (N p hp).1, (N p hp).2⟩, .nil, sorted_nil, .nil, e1, e2, e3, e4⟩
    · clear F N e1 e2 e3 e4
      rintro i v s₅ h₁ tk₁ oI hv ⟨h, tk, m, vs, xs, n, rfl, F, N, hvs, hso, hpe, e1, e2, e3, e4⟩ hk hoI hDR
      obtain ⟨x, tx, rfl⟩ : ∃ x t, v = .str x t := by obtain ⟨t, ht⟩ := strs_at hds hv; exact ⟨_, t, ht⟩
      have hi : i < ds.length := by rw [← strs_len hds]; exact (List.getElem?_eq_some_iff.mp hv).1
      have hxe : ds[i]? = some x := by
        obtain ⟨t, ht⟩ := strs_at hds hv
        injection ht with h1 h2
        rw [List.getElem?_eq_getElem hi, h1]; simp [List.getD, hi]
      obtain ⟨F₁, N₁⟩ := off_it F N hk hIL hIg (by
        intro p hp
        replace hp := mem7 hp
        rcases hp with rfl | rfl | rfl | rfl | rfl | rfl | rfl
        · exact Nat.ne_of_lt lI.1
        · exact Nat.ne_of_lt lI.2.1
        · exact Nat.ne_of_lt lI.2.2.1
        · exact Nat.ne_of_lt (Nat.lt_of_succ_lt lI.2.2.2)
        · exact Nat.ne_of_lt lI.2.2.2
        · exact Nat.ne_of_lt (Nat.lt_trans l101 (Nat.lt_of_succ_lt (Nat.lt_of_succ_lt lI.2.2.2)))
        · exact Nat.ne_of_lt (Nat.lt_trans l77 (Nat.lt_of_succ_lt (Nat.lt_of_succ_lt lI.2.2.2))))
      have N₂ : News g L h₁ [(IT, oI), (ST, listOf #[.str (Str.ofString "*") t0] 0), (NM, listOf (List.toArray vs) n), (DR, listOf (List.toArray dvs) nd), (L + 1, os), (L + 1 + 1, o1), (101, tabObj #[]), (77, tabObj #[])] := fun p hp => by
        rcases List.mem_cons.mp hp with rfl | hp
        · exact ⟨hoI, hIL, hIg⟩
        · exact N₁ p hp
      clear F N N₁ hk hoI hDR hv
      refine wpAny_assign_Name (wpAny_storeName_local rfl F₁.ns (fun h₂ hn₂ hs₂ => ?_) rfl)
      have F₂ := F₁.set hn₂ hs₂
      have N₃ := N₂.set hs₂
      clear F₁ N₂ hn₂ hs₂
      iterate 11 (walk_at "w")
      have nNM := N₃ _ (.tail _ (.tail _ (.head _)))
      have hxl : xs.length < 1000 := by have := hpe.length_eq; rw [List.length_take] at this; omega
      refine wpAny_mono (insort w _ _ NM ?ig ?id vs n xs nNM.1 hvs x tx hxl) (fun v s₄ hq => ?_) (fun _ _ x => x.elim)
      case ig => exact G.keeps fun b o e => hide_keep (F₂.keep b o e) (fun q => by rw [q, nNM.2.2] at e; cases e)
      case id => show callerA.depth + 1 + 3 < recursionLimit; decide +kernel
      obtain ⟨rfl, h₃, tk₃, r, n', rfl, hk₃, hr, eN⟩ := hq
      have F₃ := fr_ext F₂ hk₃ nNM.2.1 nNM.2.2
      have N₄ : News g L h₃ [(IT, oI), (ST, listOf #[.str (Str.ofString "*") t0] 0), (NM, listOf (List.toArray (vs.take r ++ .str x tx :: vs.drop r)) n'), (DR, listOf (List.toArray dvs) nd), (L + 1, os), (L + 1 + 1, o1), (101, tabObj #[]), (77, tabObj #[])] := fun p hp => by
        have up : ∀ p ∈ [(IT, oI), (ST, listOf #[.str (Str.ofString "*") t0] 0), (NM, listOf (List.toArray vs) n), (DR, listOf (List.toArray dvs) nd), (L + 1, os), (L + 1 + 1, o1), (101, tabObj #[]), (77, tabObj #[])], p.1 ≠ NM → h₃.get? p.1 = some p.2 ∧ p.1 ≠ L ∧ g.get? p.1 = none := fun p hp hn => ⟨hk₃ _ _ hn (N₃ p hp).1, (N₃ p hp).2⟩
        replace hp := mem8 hp
        rcases hp with rfl | rfl | rfl | rfl | rfl | rfl | rfl | rfl
        · exact up _ (by k_mem) (Nat.ne_of_gt lI.2.1)
        · exact up _ (by k_mem) (Nat.ne_of_gt lST)
        · exact ⟨eN, nNM.2⟩
        · exact up _ (by k_mem) (Nat.ne_of_lt lNM)
        · exact up _ (by k_mem) (Nat.ne_of_lt (Nat.lt_trans (Nat.lt_of_succ_lt lDR) lNM))
        · exact up _ (by k_mem) (Nat.ne_of_lt (Nat.lt_trans lDR lNM))
        · exact up _ (by k_mem) (Nat.ne_of_lt (Nat.lt_trans l101 (Nat.lt_of_succ_lt (Nat.lt_of_succ_lt (Nat.lt_trans lDR lNM)))))
        · exact up _ (by k_mem) (Nat.ne_of_lt (Nat.lt_trans l77 (Nat.lt_of_succ_lt (Nat.lt_of_succ_lt (Nat.lt_trans lDR lNM)))))
      clear F₂ N₃ nNM
      walk_at "w"
      rename Fr _ L _ _ => F₅
      rename News _ L _ _ => N₅
      refine NextR.mk ⟨⟨_, _, _, vs.take r ++ .str x tx :: vs.drop r, xs.take r ++ x :: xs.drop r, n', rfl, F₅, fun p hp => N₅ p (.tail _ hp), (hvs.take' r).append' (.cons _ _ (hvs.drop' r)), sorted_ins hso hr, ?_, e1, e2, e3, e4⟩, N₅.get (.head _), N₅.get (.tail _ (.tail _ (.tail _ (.head _))))⟩
      rw [List.take_succ, hxe]
      exact perm_ins.trans ((hpe.cons x).trans (List.perm_append_singleton x _).symm)
    · rintro s₅ h₁ tk₁ ⟨h, tk, m, vs, xs, n, rfl, F, N, hvs, hso, hpe, e1, e2, e3, e4⟩ hk
      obtain ⟨F₁, N₁⟩ := off_it F N hk hIL hIg (by
        intro p hp
        replace hp := mem7 hp
        rcases hp with rfl | rfl | rfl | rfl | rfl | rfl | rfl
        · exact Nat.ne_of_lt lI.1
        · exact Nat.ne_of_lt lI.2.1
        · exact Nat.ne_of_lt lI.2.2.1
        · exact Nat.ne_of_lt (Nat.lt_of_succ_lt lI.2.2.2)
        · exact Nat.ne_of_lt lI.2.2.2
        · exact Nat.ne_of_lt (Nat.lt_trans l101 (Nat.lt_of_succ_lt (Nat.lt_of_succ_lt lI.2.2.2)))
        · exact Nat.ne_of_lt (Nat.lt_trans l77 (Nat.lt_of_succ_lt (Nat.lt_of_succ_lt lI.2.2.2))))
      rw [strs_len hds, List.take_length] at hpe
      exact hK _ ⟨h₁, tk₁, m, vs, xs, n, rfl, F₁, N₁, hvs, hso, hpe, e1, e2, e3, e4⟩
  clear F N e1 e2 e3 e4
  rintro _ ⟨h, tk, m, vs, xs, n, rfl, F, N, hvs, hso, hpe, e1, e2, e3, e4⟩
  refine cutK (Lm4 s g L a os DR NM ST nd n dvs vs t0) (fun K hK => ?_) ?_
  · walk_at "w"
    refine listComp (cl := []) rfl (by decide) rfl (by decide) ?_
    iterate 15 (walk_at "w")
    rename Fr _ L _ _ => F₁
    rename News _ L _ _ => N₁
    refine ⟨_, _, fun i ys tl => ∃ its, ItemsAt tl its ys ∧ its.length = i ∧ tl.length = 2 * i, Src.list rfl (N₁.isList (.head _)), ?zs, ⟨[], .nil, rfl, rfl⟩, turns_name rfl rfl ?_, ?_⟩
    case zs => rename IntsAre _ (_ ++ _) => hI; rw [hI.length, sizeLine_eq]; simp; omega
    · rintro g' s₀ C i v h₂ tk₂ m' bs ys tl hg' ⟨h₀, rfl⟩ hC hi hv ⟨its, hits, hlen, htl⟩ hD F₂ N₂
      rename IntsAre _ (_ ++ _) => hI
      obtain ⟨x, tx, rfl⟩ := int_at hI hv
      refine tests_nil ?_
      rw [if_pos rfl]
      have Gg : Gnd w g' := G.keeps fun b o e => hg' b o (F₁.keep b o e)
      have Xg := Gg.x
      obtain ⟨_, _, _, _, _, Tg⟩ := Gg.t
      clear F₁ N₁ X T hv hi
      dsimp only
      iterate 8 (walk_at "w")
      refine use (law_item w _ _ (Gg.keeps F₂.keep) ?ld rfl x tx) ?_
      case ld => show callerA.depth + 1 + 2 < recursionLimit; decide +kernel
      rintro v h₃ tk₃ hk₃ ⟨tl3, it, hit, htl3⟩
      obtain ⟨q1, q2, hq1, hq2, hit2⟩ := item_two hit
      have new : ∀ q ∈ [q1, q2], h₃.get? q.1 = some q.2 ∧ h₂.get? q.1 = none := by
        intro q hq
        rcases List.mem_cons.mp hq with rfl | hq
        · exact htl3 _ hq1
        · rw [List.mem_singleton.mp hq]; exact htl3 _ hq2
      refine ⟨h₃, tk₃, _, [], [q1, q2], rfl, F₂.keeps hk₃, fun p hp => ?_, rfl, fun p hp q hq => ?_, its ++ [it], ItemsAt.append (hit2.mono fun p hp => List.mem_append_left _ hp) (hits.mono fun p hp => List.mem_append_right _ hp), by simp [hlen], by simp [htl]; omega⟩
      · rcases List.mem_append.mp hp with hp | hp
        · refine ⟨(new p hp).1, fun q => ?_, ?_⟩
          · obtain ⟨o', es, ep, e, _⟩ := F₂.ns
            have := (new p hp).2
            rw [q, e] at this; cases this
          · cases e : g'.get? p.1 with
            | none => rfl
            | some o' => have := F₂.keep _ _ e; rw [(new p hp).2] at this; cases this
        · exact N₂.grown hk₃ p hp
      · intro e
        have := (N₂ q (List.mem_append_left _ hq)).1
        rw [← e, (new p hp).2] at this; cases this
    · rintro D h₂ tk₂ ys tl k ⟨its, hits, hlen, htl⟩ hD hk₂ eD htl2
      rename IntsAre _ (_ ++ _) => hI
      have hln : 1 ≤ its.length ∧ its.length ≤ 3 := by rw [hlen, hI.length, List.length_append, List.length_take]; simp; omega
      obtain ⟨q1, q2, q3, q4, q5, q6, s1, s2⟩ := six (tl := tl) (by omega) (by omega)
      have hDL : L < D := Nat.lt_of_lt_of_le F₁.ns.lt hD
      have F₂ := F₁.keeps hk₂
      have N₂ := N₁.grown hk₂
      have lD : ∀ b o, h₂.get? b = some o → b < h₂.objs.size := fun b o e => Heap.lt_size e
      have newq : ∀ q ∈ [q1, q2, q3, q4, q5, q6], h₂.get? q.1 = some q.2 ∧ q.1 ≠ L ∧ g.get? q.1 = none ∧ q.1 ≠ L + 1 + 1 := fun q hq => by
        obtain ⟨n1, n2, n3⟩ := htl2 q (s2 q hq)
        refine ⟨n1, fun e => ?_, ?_, fun e => ?_⟩
        · obtain ⟨o', es, ep, e', _⟩ := F₁.ns
          rw [e] at n2; exact absurd (e'.symm.trans n2) (fun z => nomatch z)
        · cases e : g.get? q.1 with
          | none => rfl
          | some o' => have := F₁.keep _ _ e; exact absurd (this.symm.trans n2) (fun z => nomatch z)
        · rw [e] at n2
          have := (N₁ (L + 1 + 1, o1) (by k_mem)).1
          exact absurd (this.symm.trans n2) (fun z => nomatch z)
      have hq17 : ∀ q ∈ [q1, q2, q3, q4, q5, q6], q.1 ≠ 101 ∧ q.1 ≠ 77 := fun q hq => by
        obtain ⟨_, n2, _⟩ := htl2 q (s2 q hq)
        refine ⟨fun e => ?_, fun e => ?_⟩
        · rw [e] at n2; exact absurd ((N₁ (101, tabObj #[]) (by k_mem)).1.symm.trans n2) (fun z => nomatch z)
        · rw [e] at n2; exact absurd ((N₁ (77, tabObj #[]) (by k_mem)).1.symm.trans n2) (fun z => nomatch z)
      have n1 := N₂ (L + 1 + 1, o1) (by k_mem)
      have hst := Nat.lt_of_lt_of_le (Heap.lt_size (N₁ (ST, listOf #[.str (Str.ofString "*") t0] 0) (by k_mem)).1) hD
      have hl2 := Nat.lt_of_lt_of_le (Heap.lt_size (N₁ (L + 1 + 1, o1) (by k_mem)).1) hD
      refine wpAny_storeName_cell rfl rfl rfl ⟨o1, n1.1, d1⟩ fun h₃ hv₃ hs₃ => ?_
      obtain ⟨oi, hoi, di⟩ := hv₃
      have F₃ := fr_ext F₂ hs₃.extBut n1.2.1 n1.2.2
      have up : ∀ p : Addr × Obj, p.1 ≠ L + 1 + 1 → (h₂.get? p.1 = some p.2 ∧ p.1 ≠ L ∧ g.get? p.1 = none) → h₃.get? p.1 = some p.2 ∧ p.1 ≠ L ∧ g.get? p.1 = none := fun p hn hp => ⟨hs₃.extBut _ _ hn hp.1, hp.2⟩
      have N₃ : News g L h₃ [(D, listOf (List.toArray ys) k), (ST, listOf #[.str (Str.ofString "*") t0] 0), (NM, listOf (List.toArray vs) n), (DR, listOf (List.toArray dvs) nd), (L + 1, os), (L + 1 + 1, oi), q1, q2, q3, q4, q5, q6, (101, tabObj #[]), (77, tabObj #[])] := fun p hp => by
        replace hp := mem14 hp
        rcases hp with rfl | rfl | rfl | rfl | rfl | rfl | rfl | rfl | rfl | rfl | rfl | rfl | rfl | rfl
        · exact up _ (Nat.ne_of_gt hl2) ⟨eD, Nat.ne_of_gt hDL, Heap.get?_none_of_le (Nat.le_trans F₁.above (Nat.le_of_lt hDL))⟩
        · exact up _ (Nat.ne_of_gt (Nat.lt_trans lDR (Nat.lt_trans lNM lST))) (N₂ _ (by k_mem))
        · exact up _ (Nat.ne_of_gt (Nat.lt_trans lDR lNM)) (N₂ _ (by k_mem))
        · exact up _ (Nat.ne_of_gt lDR) (N₂ _ (by k_mem))
        · exact up _ (Nat.ne_of_lt (Nat.lt_succ_self _)) (N₂ _ (by k_mem))
        · exact ⟨hoi, n1.2⟩
        · have := newq p (by k_mem); exact up _ this.2.2.2 ⟨this.1, this.2.1, this.2.2.1⟩
        · have := newq p (by k_mem); exact up _ this.2.2.2 ⟨this.1, this.2.1, this.2.2.1⟩
        · have := newq p (by k_mem); exact up _ this.2.2.2 ⟨this.1, this.2.1, this.2.2.1⟩
        · have := newq p (by k_mem); exact up _ this.2.2.2 ⟨this.1, this.2.1, this.2.2.1⟩
        · have := newq p (by k_mem); exact up _ this.2.2.2 ⟨this.1, this.2.1, this.2.2.1⟩
        · have := newq p (by k_mem); exact up _ this.2.2.2 ⟨this.1, this.2.1, this.2.2.1⟩
        · exact up _ (Nat.ne_of_lt (Nat.lt_succ_of_lt (Nat.lt_succ_of_lt l101))) (N₂ _ (by k_mem))
        · exact up _ (Nat.ne_of_lt (Nat.lt_succ_of_lt (Nat.lt_succ_of_lt l77))) (N₂ _ (by k_mem))
      clear F₁ N₁ F₂ N₂ hk₂ eD htl2 newq up n1 hoi hs₃ lD
      skip
      exact hK _ ⟨_, _, m, D, k, ys, its, oi, q1, q2, q3, q4, q5, q6, rfl, F₃, N₃, di, hits.mono s1, hln.2, hln.1, hst, hq17, e1, e2, e3, e4⟩
  clear F N e1 e2 e3 e4
  rintro _ ⟨h, tk, m, IM, ni, ivs, its, oi, q1, q2, q3, q4, q5, q6, rfl, F, N, di, hits, hi3, hi1, lIM, hq17, e1, e2, e3, e4⟩
  refine cutK (Lm5 s g L os oi DR NM ST IM nd n ni dvs vs ivs its st t0 q1 q2 q3 q4 q5 q6) (fun K hK => ?_) ?_
  · have hrefs : ∀ v ∈ ivs, ∃ T, v = .ref T := fun v hv => by
      obtain ⟨i, hi⟩ := List.getElem?_of_mem hv
      obtain ⟨it, _, _, T, _, _, _, _, e, _⟩ := hits.at hi
      exact ⟨T, e⟩
    have hil := hits.len
    have sub6 : ∀ p ∈ [q1, q2, q3, q4, q5, q6], h.get? p.1 = some p.2 := fun p hp => (N p (by
      replace hp := mem6 hp
      rcases hp with rfl | rfl | rfl | rfl | rfl | rfl <;> k_mem)).1
    iterate 11 (walk_at "w")
    refine listComp (cl := []) rfl (by decide) rfl (by decide) ?_
    walk_at "w"
    refine ⟨_, _, fun i ys tl => tl = [] ∧ StrsAre ys ((its.take i).map fun it => txt it.text), Src.listT rfl (N.isList (.head _)) hrefs, by rw [sizeLine_eq]; omega, ⟨rfl, .nil⟩, ?_, ?_⟩
    · rintro g' s₀ C i v h₂ tk₂ m' bs ys tl hg' ⟨h₀, rfl⟩ hC hi hv ⟨rfl, hys⟩ hD F₂ N₂
      obtain ⟨it, hit, ok, T, mv, nT, t1, t2, rfl, hmv, hT⟩ := hits.at hv
      have hT' : g'.get? T = some (listOf #[.str (txt it.text) t1, mv, .str (txt it.part) t2] nT) := hg' T _ (sub6 _ hT)
      have hl3 : g'.IsList T #[.str (txt it.text) t1, mv, .str (txt it.part) t2] := ⟨_, hT', rfl, _, rfl⟩
      refine kun_list F₂ N₂ (hl3.at fun o e => F₂.keep _ o e) rfl rfl rfl fun h₃ F₃ N₃ => ?_
      clear F₂ N₂
      iterate 2 (walk_at "w")
      refine wpAny_storeName_local rfl F₃.ns (fun h₄ hn₄ hs₄ => ?_) rfl
      have F₄ := F₃.set hn₄ hs₄
      have N₄ := N₃.set hs₄
      clear F₃ N₃ hn₄ hs₄
      iterate 2 (walk_at "w")
      refine wpAny_storeName_local rfl F₄.ns (fun h₅ hn₅ hs₅ => ?_) rfl
      have F₅ := F₄.set hn₅ hs₅
      have N₅ := N₄.set hs₅
      clear F₄ N₄ hn₅ hs₅
      iterate 2 (walk_at "w")
      refine wpAny_storeName_local rfl F₅.ns (fun h₆ hn₆ hs₆ => ?_) rfl
      have F₆ := F₅.set hn₆ hs₆
      have N₆ := N₅.set hs₆
      clear F₅ N₅ hn₆ hs₆
      walk_at "w"
      refine tests_nil ?_
      rw [if_pos rfl]
      refine nmL F₆ rfl rfl rfl rfl rfl ?_
      refine After.none F₆ N₆ ⟨rfl, ?_⟩
      rw [List.take_add_one, hit]
      simpa using hys.append' (.cons (txt it.text) t1 .nil)
    · rintro D h₂ tk₂ ys tl k ⟨rfl, hys⟩ hD hk₂ eD -
      rw [hil, List.take_length] at hys
      have F₂ := F.keeps hk₂
      have N₂ := news_new F (N.grown hk₂) hD eD
      clear F N
      walk_at "w"
      have hok := hits.ok
      refine join_listC (N₂.isList (.head _)) (ys := its.map fun it => txt it.text) (by simpa using hys) (by decide) (by have := sum_txts its hok; rw [List.length_map]; omega) fun t' k' => ?_
      rw [join_txts]
      have lP : (txt ((its.map Item.text).flatten)).length ≤ 21 := by have := texts_len its hok; rw [txt_len]; omega
      iterate 4 (walk_at "w")
      have hne77 : ∀ p ∈ [(IM, listOf (List.toArray ivs) ni), (ST, listOf #[.str (Str.ofString "*") t0] 0), (NM, listOf (List.toArray vs) n), (DR, listOf (List.toArray dvs) nd), (L + 1, os), (L + 1 + 1, oi), q1, q2, q3, q4, q5, q6, (101, tabObj #[])], p.1 ≠ 77 := by
        have hL77 : 77 < DR := Nat.lt_trans (Nat.lt_succ_of_lt (Nat.lt_succ_of_lt l77)) lDR
        intro p hp
        replace hp := mem13 hp
        rcases hp with rfl | rfl | rfl | rfl | rfl | rfl | rfl | rfl | rfl | rfl | rfl | rfl | rfl
        · exact Nat.ne_of_gt (Nat.lt_trans hL77 (Nat.lt_trans lNM (Nat.lt_trans lST lIM)))
        · exact Nat.ne_of_gt (Nat.lt_trans hL77 (Nat.lt_trans lNM lST))
        · exact Nat.ne_of_gt (Nat.lt_trans hL77 lNM)
        · exact Nat.ne_of_gt hL77
        · exact Nat.ne_of_gt (Nat.lt_succ_of_lt l77)
        · exact Nat.ne_of_gt (Nat.lt_succ_of_lt (Nat.lt_succ_of_lt l77))
        · exact (hq17 _ (by k_mem)).2
        · exact (hq17 _ (by k_mem)).2
        · exact (hq17 _ (by k_mem)).2
        · exact (hq17 _ (by k_mem)).2
        · exact (hq17 _ (by k_mem)).2
        · exact (hq17 _ (by k_mem)).2
        · decide
      cases st with
      | true =>
        rw [if_pos rfl]
        iterate 8 (walk_at "w")
        have n77 := N₂ (77, tabObj #[]) (by k_mem)
        refine' use2 (translate' w _ _ g G ?tk g77 #[] n77.1 trivial ?td rfl its hok hi3 hi1 true ST _ _ ?tb _ _ ?tx ?tq) ?_
        case tb => exact AllBare.of_eq hg
        case tk => exact F₂.keep
        case td => show callerA.depth + 1 + 4 < recursionLimit; decide +kernel
        case tx => exact (by rw [lit_s, txt_app]; rfl)
        case tq => exact lit_p
        intro v s₃ hq
        obtain ⟨h₃, gs, tk₃, pvs, np, ps7, PL, rfl, rfl, hgs, hk₃, e7, ht7, hnew, hPL, hpv⟩ := hq
        obtain ⟨F₃, N₃⟩ := after77 F₂ (pre := [(IM, listOf (List.toArray ivs) ni), (ST, listOf #[.str (Str.ofString "*") t0] 0), (NM, listOf (List.toArray vs) n), (DR, listOf (List.toArray dvs) nd), (L + 1, os), (L + 1 + 1, oi), q1, q2, q3, q4, q5, q6, (101, tabObj #[])]) (fun p hp => N₂ p (.tail _ hp)) hk₃ e7 hne77 hnew hPL
        clear F₂ N₂ n77 hk₃ hnew
        walk_at "w"
        rename Fr _ L _ _ => F₄
        rename News _ L _ _ => N₄
        exact hK _ ⟨_, gs, _, _, PL, np, pvs, ps7, rfl, hgs, F₄, N₄, hpv, e1, e2, e3, rfl⟩
      | false =>
        rw [if_neg Bool.false_ne_true]
        iterate 8 (walk_at "w")
        have n77 := N₂ (77, tabObj #[]) (by k_mem)
        refine' use2 (translate' w _ _ g G ?tk g77 #[] n77.1 trivial ?td rfl its hok hi3 hi1 false ST _ _ ?tb _ _ ?tx ?tq) ?_
        case tb => exact AllBare.of_eq hg
        case tk => exact F₂.keep
        case td => show callerA.depth + 1 + 4 < recursionLimit; decide +kernel
        case tx => exact (by rw [lit_e, txt_app]; rfl)
        case tq => exact lit_p
        intro v s₃ hq
        obtain ⟨h₃, gs, tk₃, pvs, np, ps7, PL, rfl, rfl, hgs, hk₃, e7, ht7, hnew, hPL, hpv⟩ := hq
        obtain ⟨F₃, N₃⟩ := after77 F₂ (pre := [(IM, listOf (List.toArray ivs) ni), (ST, listOf #[.str (Str.ofString "*") t0] 0), (NM, listOf (List.toArray vs) n), (DR, listOf (List.toArray dvs) nd), (L + 1, os), (L + 1 + 1, oi), q1, q2, q3, q4, q5, q6, (101, tabObj #[])]) (fun p hp => N₂ p (.tail _ hp)) hk₃ e7 hne77 hnew hPL
        clear F₂ N₂ n77 hk₃ hnew
        walk_at "w"
        rename Fr _ L _ _ => F₄
        rename News _ L _ _ => N₄
        exact hK _ ⟨_, gs, _, _, PL, np, pvs, ps7, rfl, hgs, F₄, N₄, hpv, e1, e2, e3, rfl⟩
  clear F N e1 e2 e3 e4
  rintro _ ⟨h, gs, tk, m, PL, np, pvs, ps7, rfl, hgs, F, N, hparts, e1, e2, e3, e4⟩
  refine cutK (Lm6 s g L os oi DR NM ST IM PL nd n ni np dvs vs ivs pvs t0 q1 q2 q3 q4 q5 q6 gs ps7) (fun K hK => ?_) ?_
  · have hrefs : ∀ v ∈ ivs, ∃ T, v = .ref T := fun v hv => by
      obtain ⟨i, hi⟩ := List.getElem?_of_mem hv
      obtain ⟨it, _, _, T, _, _, _, _, e, _⟩ := hits.at hi
      exact ⟨T, e⟩
    have hil := hits.len
    iterate 17 (walk_at "w")
    rename Fr _ L _ _ => F₁
    rename News _ L _ _ => N₁
    refine sorted_N_str F₁ N₁ (N₁.isList (by k_mem : (DR, listOf (List.toArray dvs) nd) ∈ _)) hds (by rw [strs_len hds]; omega) fun h₂ svs ss e F₂ N₂ hss hsp hsS => ?_
    have hse : ss = xs := sorted_same hso hpe hsp hsS
    rw [hse] at hss
    clear F₁ N₁ hse hsp hsS
    iterate 2 (walk_at "w")
    have sub6 : ∀ p ∈ [q1, q2, q3, q4, q5, q6], h₂.get? p.1 = some p.2 := fun p hp => (N₂ p (by
      replace hp := mem6 hp
      rcases hp with rfl | rfl | rfl | rfl | rfl | rfl <;> k_mem)).1
    refine listComp (cl := []) rfl (by decide) rfl (by decide) ?_
    walk_at "w"
    refine ⟨_, _, fun i ys tl => tl = [] ∧ StrsAre ys ((its.take i).map fun it => txt it.part), Src.listT rfl (N₂.isList (by k_mem : (IM, listOf (List.toArray ivs) ni) ∈ _)) hrefs, by rw [sizeLine_eq]; omega, ⟨rfl, .nil⟩, ?_, ?_⟩
    · rintro g' s₀ C i v h₃ tk₃ m' bs ys tl hg' ⟨h₀, rfl⟩ hC hi hv ⟨rfl, hys⟩ hD F₂ N₂
      obtain ⟨it, hit, ok, T, mv, nT, t1, t2, rfl, hmv, hT⟩ := hits.at hv
      have hT' : g'.get? T = some (listOf #[.str (txt it.text) t1, mv, .str (txt it.part) t2] nT) := hg' T _ (sub6 _ hT)
      have hl3 : g'.IsList T #[.str (txt it.text) t1, mv, .str (txt it.part) t2] := ⟨_, hT', rfl, _, rfl⟩
      refine kun_list F₂ N₂ (hl3.at fun o e => F₂.keep _ o e) rfl rfl rfl fun h₃ F₃ N₃ => ?_
      clear F₂ N₂
      iterate 2 (walk_at "w")
      refine wpAny_storeName_local rfl F₃.ns (fun h₄ hn₄ hs₄ => ?_) rfl
      have F₄ := F₃.set hn₄ hs₄
      have N₄ := N₃.set hs₄
      clear F₃ N₃ hn₄ hs₄
      iterate 2 (walk_at "w")
      refine wpAny_storeName_local rfl F₄.ns (fun h₅ hn₅ hs₅ => ?_) rfl
      have F₅ := F₄.set hn₅ hs₅
      have N₅ := N₄.set hs₅
      clear F₄ N₄ hn₅ hs₅
      iterate 2 (walk_at "w")
      refine wpAny_storeName_local rfl F₅.ns (fun h₆ hn₆ hs₆ => ?_) rfl
      have F₆ := F₅.set hn₆ hs₆
      have N₆ := N₅.set hs₆
      clear F₅ N₅ hn₆ hs₆
      walk_at "w"
      refine tests_nil ?_
      rw [if_pos rfl]
      refine nmL F₆ rfl rfl rfl rfl rfl ?_
      refine After.none F₆ N₆ ⟨rfl, ?_⟩
      rw [List.take_add_one, hit]
      simpa using hys.append' (.cons (txt it.part) t2 .nil)
    · rintro D h₃ tk₃ ys tl k ⟨rfl, hys⟩ hD hk₃ eD -
      rw [hil, List.take_length] at hys
      have F₃ := F₂.keeps hk₃
      have N₃ := news_new F₂ (N₂.grown hk₃) hD eD
      clear F₂ N₂ sub6 hk₃ hD
      iterate 4 (walk_at "w")
      cases st with
      | true =>
        rw [if_pos rfl]
        iterate 9 (walk_at "w")
        rename Fr _ L _ _ => F₄
        rename News _ L _ _ => N₄
        refine add_arrays F₄ N₄ (N₄.isList (.tail _ (.tail _ (.head _)))) (N₄.isList (.head _)) (fun h₅ F₅ N₅ => ?_) ?az
        case az => have := strs_len hys; rw [List.length_map] at this; rw [sizeLine_eq, List.size_toArray]; simp; omega
        clear F₄ N₄
        iterate 2 (walk_at "w")
        rename Fr _ L _ _ => F₆
        rename News _ L _ _ => N₆
        have okx : ∀ y ∈ xs, PyData.strOk y = true := fun y hy => name_okN (hdn y (hpe.mem_iff.mp hy))
        have okq : ∀ y ∈ its.map fun it => txt it.part, PyData.strOk y = true := fun y hy => by
          obtain ⟨it, hi, rfl⟩ := List.mem_map.mp hy
          exact part_ok (hits.ok it hi)
        rw [if_pos rfl] at hparts
        obtain ⟨vs', rfl, hvs'⟩ : ∃ vs', pvs = vs' ++ [.ref ST] ∧ StrsAre vs' (its.map fun it => txt it.part) := hparts
        obtain ⟨as1, r1⟩ := reads_app (reads_strs hvs') (.cons (.list (N₆.get (.tail _ (.tail _ (.tail _ (.tail _ (.tail _ (.tail _ (.tail _ (.tail _ (.tail _ (.head _))))))))))) rfl rfl (.cons (.str _ _) .nil)) .nil)
        obtain ⟨as2, r2⟩ := reads_app (reads_strs hys) (.cons (.list (N₆.get (.tail _ (.tail _ (.tail _ (.head _))))) rfl rfl (.cons (.str _ _) .nil)) .nil)
        refine cmp_lists (pd := (its.map fun it => txt it.part).map PyData.str ++ [.list [.str (Str.ofString "*")]]) (N₆.get (.tail _ (.tail _ (.tail _ (.tail _ (.tail _ (.tail _ (.head _)))))))) (N₆.get (.tail _ (.tail _ (.tail _ (.tail _ (.tail _ (.tail _ (.tail _ (.tail _ (.tail _ (.tail _ (.head _)))))))))))) (N₆.get (.tail _ (.tail _ (.tail _ (.tail _ (.tail _ (.tail _ (.tail _ (.head _))))))))) (N₆.get (.head _)) (N₆.get (.tail _ (.tail _ (.tail _ (.tail _ (.tail _ (.head _))))))) (N₆.get (.tail _ (.head _))) hvs hss r1 r2 okx (lay_app _ _ (lay_strs okq) (by decide +kernel)) (by rw [depth_app, depth_strs]; decide) ?_ ?_
        · show callerA.units + 3 + 64 < cLine; decide +kernel
        iterate 4 (walk_at "w")
        rename Fr _ L _ _ => F₈
        exact hK _ ⟨_, _, m, rfl, F₈, fun p hp => N₆ p (by
          replace hp := mem15 hp
          rcases hp with rfl | rfl | rfl | rfl | rfl | rfl | rfl | rfl | rfl | rfl | rfl | rfl | rfl | rfl | rfl <;> k_mem), e1, e2, e3, e4⟩
      | false =>
        rw [if_neg Bool.false_ne_true]
        iterate 3 (walk_at "w")
        rename Fr _ L _ _ => F₄
        rename News _ L _ _ => N₄
        refine add_arrays F₄ N₄ (N₄.isList (.tail _ (.head _))) (N₄.isList (.head _)) (fun h₅ F₅ N₅ => ?_) ?az
        case az => have := strs_len hys; rw [List.length_map] at this; rw [sizeLine_eq, List.size_toArray]; simp; omega
        clear F₄ N₄
        iterate 2 (walk_at "w")
        rename Fr _ L _ _ => F₆
        rename News _ L _ _ => N₆
        have okx : ∀ y ∈ xs, PyData.strOk y = true := fun y hy => name_okN (hdn y (hpe.mem_iff.mp hy))
        have okq : ∀ y ∈ its.map fun it => txt it.part, PyData.strOk y = true := fun y hy => by
          obtain ⟨it, hi, rfl⟩ := List.mem_map.mp hy
          exact part_ok (hits.ok it hi)
        rw [if_neg Bool.false_ne_true] at hparts
        have hys2 : StrsAre (ys ++ []) (its.map fun it => txt it.part) := by rw [List.append_nil]; exact hys
        refine cmp_lists (pd := (its.map fun it => txt it.part).map PyData.str) (N₆.get (.tail _ (.tail _ (.tail _ (.tail _ (.tail _ (.head _))))))) (N₆.get (.tail _ (.tail _ (.tail _ (.tail _ (.tail _ (.tail _ (.tail _ (.tail _ (.tail _ (.head _))))))))))) (N₆.get (.tail _ (.tail _ (.tail _ (.tail _ (.tail _ (.tail _ (.head _)))))))) (N₆.get (.head _)) (N₆.get (.tail _ (.tail _ (.tail _ (.tail _ (.head _)))))) (N₆.get (.tail _ (.head _))) hvs hss (reads_strs hparts) (reads_strs hys2) okx (lay_strs okq) (by rw [depth_strs]; decide) ?_ ?_
        · show callerA.units + 3 + 64 < cLine; decide +kernel
        iterate 4 (walk_at "w")
        rename Fr _ L _ _ => F₈
        exact hK _ ⟨_, _, m, rfl, F₈, fun p hp => N₆ p (by
          replace hp := mem15 hp
          rcases hp with rfl | rfl | rfl | rfl | rfl | rfl | rfl | rfl | rfl | rfl | rfl | rfl | rfl | rfl | rfl <;> k_mem), e1, e2, e3, e4⟩
  clear F N e1 e2 e3 e4
  rintro _ ⟨h, tk, m, rfl, F, N, e1, e2, e3, e4⟩
  refine cutK (Lm7 s g L os oi NM ST IM PL n ni np vs ivs pvs xs its st t0 q1 q2 q3 q4 q5 q6 gs ps7) (fun K hK => ?_) ?_
  · refine assignComp (cl := [(Str.ofString "starred", L + 1), (Str.ofString "items", L + 1 + 1)]) rfl rfl (by decide) rfl (by decide) rfl rfl ?_
    have hil := hits.len
    iterate 6 (walk_at "w")
    refine sorted_N_str F N (N.isList (by k_mem : (DR, listOf (List.toArray dvs) nd) ∈ _)) hds (by rw [strs_len hds]; omega) fun h₂ svs ss e F₂ N₂ hss hsp hsS => ?_
    have hse : ss = xs := sorted_same hso hpe hsp hsS
    rw [hse] at hss
    have hsl := strs_len hss
    have hxl := hpe.length_eq
    clear F N hse hsp hsS
    refine ⟨_, _, fun i ys tl => tl = [] ∧ StrsAre ys ((xs.take i).filter fun y => decide (y.length = its.length) || (st && decide (its.length < y.length))), _, Src.list rfl (N₂.isList (.head _)), by rw [sizeLine_eq]; omega, ⟨rfl, .nil⟩, turns_name rfl rfl ?_, F₂.ns, ?_⟩
    · rintro g' s₀ C i v h₃ tk₃ m' bs ys tl hg' ⟨h₀, rfl⟩ hC hi hv ⟨rfl, hys⟩ hD F₃ N₃
      obtain ⟨y, ty, rfl⟩ : ∃ y t, v = .str y t := by obtain ⟨t, ht⟩ := strs_at hss hv; exact ⟨_, t, ht⟩
      have hix : i < xs.length := by rw [← hsl]; exact (List.getElem?_eq_some_iff.mp hv).1
      have hye : xs[i]? = some y := by
        obtain ⟨t, ht⟩ := strs_at hss hv
        injection ht with h1 h2
        rw [List.getElem?_eq_getElem hix, h1]; simp [List.getD, hix]
      have hyn : IsName y := hdn y (hpe.mem_iff.mp (List.mem_of_getElem? hye))
      have Gg : Gnd w g' := G.keeps fun b o e => hg' b o (F₂.keep b o e)
      have Xg := Gg.x
      obtain ⟨_, _, _, _, _, Tg⟩ := Gg.t
      have c1 : g'.get? (L + 1) = some os := hg' _ _ (N₂ (L + 1, os) (by k_mem)).1
      have c2 : g'.get? (L + 1 + 1) = some oi := hg' _ _ (N₂ (L + 1 + 1, oi) (by k_mem)).1
      have hIM : g'.IsList IM (List.toArray ivs) := ⟨_, hg' _ _ (N₂ (IM, listOf (List.toArray ivs) ni) (by k_mem)).1, rfl, _, rfl⟩
      clear F₂ N₂ X T
      refine tests_isT (decide (y.length = its.length) || (st && decide (its.length < y.length))) ?_ ?_
      · iterate 8 (walk_at "w")
        have hy5 : y.length ≤ 5 := hyn.1
        refine PyProof.Rows.len_str (by omega) ?_
        iterate 6 (walk_at "w")
        refine PyProof.Rows.len_list (hIM.at fun o e => F₃.keep _ o e) (by rw [List.size_toArray]; omega) ?_
        rw [List.size_toArray, hil]
        iterate 2 (walk_at "w")
        by_cases hyi : y.length = its.length
        · rw [if_pos (by rw [hyi]; simp)]
          exact ⟨by rw [hyi]; simp, _, rfl⟩
        · rw [if_neg (by simp; omega)]
          iterate 5 (walk_at "w")
          cases st with
          | true =>
            rw [if_pos rfl]
            iterate 15 (walk_at "w")
            refine PyProof.Rows.len_list (hIM.at fun o e => F₃.keep _ o e) (by rw [List.size_toArray]; omega) ?_
            rw [List.size_toArray, hil]
            iterate 2 (walk_at "w")
            by_cases hyl : its.length < y.length
            · rw [if_pos (decide_eq_true (by exact_mod_cast hyl))]
              iterate 2 (walk_at "w")
              exact ⟨by simp [hyl], _, rfl⟩
            · rw [if_neg (by simp; omega)]
              iterate 2 (walk_at "w")
              exact ⟨by simp [hyl, hyi], _, rfl⟩
          | false =>
            rw [if_neg Bool.false_ne_true]
            iterate 2 (walk_at "w")
            exact ⟨by simp [hyi], _, rfl⟩
      · intro kk
        cases hb : (decide (y.length = its.length) || (st && decide (its.length < y.length)))
        · rw [if_neg Bool.false_ne_true]
          refine After.none F₃ N₃ ⟨rfl, ?_⟩
          rw [List.take_add_one, hye]
          simpa [hb] using hys
        · rw [if_pos rfl]
          refine nmL F₃ rfl rfl rfl rfl rfl ?_
          refine After.none F₃ N₃ ⟨rfl, ?_⟩
          rw [List.take_add_one, hye]
          have := hys.append' (.cons y ty .nil)
          simpa [hb] using this
    · rintro D h₃ tk₃ ys tl k ⟨rfl, hys⟩ hD hk₃ eD hns -
      rw [hsl, List.take_length] at hys
      obtain ⟨F₃, N₃, hlt⟩ := comp_fr F₂ N₂ hk₃ hns hD eD
      refine hK _ ⟨h₃, tk₃, _, D, k, ys, rfl, F₃, fun p hp => N₃ p ?_, hys, e2, e3, e4, rfl⟩
      replace hp := mem15 hp
      rcases hp with rfl | rfl | rfl | rfl | rfl | rfl | rfl | rfl | rfl | rfl | rfl | rfl | rfl | rfl | rfl <;> k_mem
  clear F N e1 e2 e3 e4
  rintro _ ⟨h, tk, m, WI, nw, wvs, rfl, F, N, hwv, e1, e2, e3, e4⟩
  refine cutK (Lm8 s g L NM ST PL n np vs pvs xs its st t0 gs ps7) (fun K hK => ?_) ?_
  · refine assignCompO (cn := Str.ofString "name") (cl := [(Str.ofString "items", L + 1 + 1)]) rfl rfl (fun _ => rfl) (fun _ => rfl) rfl (by decide) rfl rfl ?_
    have hil := hits.len
    have hwl := strs_len hwv
    have hxl := hpe.length_eq
    have hwx := List.length_filter_le (fun y : Str => decide (y.length = its.length) || (st && decide (its.length < y.length))) xs
    walk_at "w"
    refine ⟨_, _, fun i ys tl => tl = [] ∧ StrsAre ys (((xs.filter fun y => decide (y.length = its.length) || (st && decide (its.length < y.length))).take i).filter fun y => okTo its y.cps.toList its.length), _, Src.list rfl (N.isList (.head _)), by rw [sizeLine_eq]; omega, ⟨rfl, .nil⟩, fun _ _ _ h => h.1, ?_, F.ns, ?_⟩
    · rintro g' s₀ C i v h₃ tk₃ m' oc cv bs ys tl hg' ⟨h₀, rfl⟩ hC hi hv ⟨rfl, hys⟩ hoc hnc F₃ N₃
      obtain ⟨y, ty, rfl⟩ : ∃ y t, v = .str y t := by obtain ⟨t, ht⟩ := strs_at hwv hv; exact ⟨_, t, ht⟩
      have hix : i < (xs.filter fun y => decide (y.length = its.length) || (st && decide (its.length < y.length))).length := by rw [← hwl]; exact (List.getElem?_eq_some_iff.mp hv).1
      have hye : (xs.filter fun y => decide (y.length = its.length) || (st && decide (its.length < y.length)))[i]? = some y := by
        obtain ⟨t, ht⟩ := strs_at hwv hv
        injection ht with h1 h2
        rw [List.getElem?_eq_getElem hix, h1, List.getD, List.getElem?_eq_getElem hix]; rfl
      obtain ⟨hyx, hyl⟩ := List.mem_filter.mp (List.mem_of_getElem? hye)
      have hyn : IsName y := hdn y (hpe.mem_iff.mp hyx)
      have hyl2 : its.length ≤ y.cps.toList.length := by
        have e : y.length = y.cps.toList.length := by simp [PySem.Str.length]
        rw [← e]
        simp only [Bool.or_eq_true, Bool.and_eq_true, decide_eq_true_eq] at hyl
        omega
      have hy5 : y.cps.toList.length ≤ 5 := by have := hyn.1; simp; exact this
      obtain ⟨l, hl0⟩ : ∃ l, y = txt l := ⟨y.cps.toList, by simp [txt]⟩
      have hlt : l.length = y.cps.toList.length := by rw [hl0]; rfl
      have Gg : Gnd w g' := G.keeps fun b o e => hg' b o (F.keep b o e)
      have Xg := Gg.x
      obtain ⟨_, _, _, _, _, Tg⟩ := Gg.t
      have c2 : g'.get? (L + 1 + 1) = some oi := hg' _ _ (N (L + 1 + 1, oi) (by k_mem)).1
      have hIM : g'.IsList IM (List.toArray ivs) := ⟨_, hg' _ _ (N (IM, listOf (List.toArray ivs) ni) (by k_mem)).1, rfl, _, rfl⟩
      have sub6 : ∀ p ∈ [q1, q2, q3, q4, q5, q6], g'.get? p.1 = some p.2 := fun p hp => hg' _ _ (N p (by
        replace hp := mem6 hp
        rcases hp with rfl | rfl | rfl | rfl | rfl | rfl <;> k_mem)).1
      have n1 := N₃ _ (.head _)
      refine wpAny_assign_Name (wpAny_storeName_cell rfl rfl rfl ⟨oc, n1.1, hoc⟩ fun h₄ hv₄ hs₄ => ?_)
      obtain ⟨oc', hoc', hd'⟩ := hv₄
      have F₄ := fr_ext F₃ hs₄.extBut n1.2.1 n1.2.2
      have N₄ : News g' C h₄ ((C + 1, oc') :: bs) := fun p hp => by
        rcases List.mem_cons.mp hp with rfl | hp
        · exact ⟨hoc', n1.2⟩
        · have n2 := N₃ p (.tail _ (List.mem_append_left _ hp))
          exact ⟨hs₄.extBut _ _ (hnc p (List.mem_append_left _ hp)) n2.1, n2.2⟩
      clear F₃ N₃ n1 hs₄ hoc' F N X T
      refine tests_cut (fun ok s' => ok = okTo its l its.length ∧ ∃ h' k, s' = ⟨h', gs, s.drawn, k, s.os⟩ ∧ Fr g' C h' m' ∧ News g' C h' ((C + 1, oc') :: bs)) ?_ ?_
      · walk_at "w"
        refine listComp (cl := [(Str.ofString "name", C + 1), (Str.ofString "items", L + 1 + 1)]) rfl (by decide) rfl (by decide) ?_
        iterate 10 (walk_at "w")
        refine PyProof.Rows.len_list (hIM.at fun o e => F₄.keep _ o e) (by rw [List.size_toArray]; omega) ?_
        rw [List.size_toArray, hil]
        iterate 2 (walk_at "w")
        rename Fr _ C _ _ => F₅
        rename News _ C _ _ => N₅
        rename IsRange _ _ _ _ _ _ _ _ => R
        dsimp only at R N₅ F₅ ⊢
        refine ⟨its.length, _, fun i ys tl => tl = [] ∧ ∃ nz : List Int, IntsAre ys nz ∧ (nz = [] ↔ okTo its l i = true), Src.range rfl R (by omega), by rw [sizeLine_eq]; omega, ⟨rfl, [], .nil, by simp [okTo_zero]⟩, turns_name rfl rfl ?_, ?_⟩
        · rintro g'' s₆ C' i v h₆ tk₆ m'' bs' ys' tl' hg'' ⟨h₇, rfl⟩ hC' hi' ⟨tv, rfl⟩ ⟨rfl, nz, hnz, hok⟩ hD' F₆ N₆
          have Gg' : Gnd w g'' := Gg.keeps fun b o e => hg'' b o (F₅.keep b o e)
          have Xg' := Gg'.x
          obtain ⟨_, _, _, _, _, Tg'⟩ := Gg'.t
          have c2' : g''.get? (L + 1 + 1) = some oi := hg'' _ _ (F₅.keep _ _ c2)
          have c1' : g''.get? (C + 1) = some oc' := hg'' _ _ (N₅ (C + 1, oc') (by k_mem)).1
          have hIM' : g''.IsList IM (List.toArray ivs) := hIM.at fun o e => hg'' _ _ (F₅.keep _ _ e)
          have sub6' : ∀ p ∈ [q1, q2, q3, q4, q5, q6], g''.get? p.1 = some p.2 := fun p hp => hg'' _ _ (F₅.keep _ _ (sub6 p hp))
          clear F₅ N₅ Xg Tg
          have hi2 : i < its.length := hi'
          have hil2 : i < l.length := by omega
          obtain ⟨it, hit⟩ : ∃ it, its[i]? = some it := ⟨_, List.getElem?_eq_getElem hi2⟩
          obtain ⟨c, hc⟩ : ∃ c, l[i]? = some c := ⟨_, List.getElem?_eq_getElem hil2⟩
          have hiv : ∃ v, ivs[i]? = some v := ⟨_, List.getElem?_eq_getElem (by omega)⟩
          obtain ⟨v, hv2⟩ := hiv
          obtain ⟨it', hit', okk, T, mv, nT, t1, t2, rfl, hmv, hT⟩ := hits.at hv2
          obtain rfl : it = it' := Option.some.inj (hit.symm.trans hit')
          have hT' : g''.get? T = some (listOf #[.str (txt it.text) t1, mv, .str (txt it.part) t2] nT) := sub6' _ hT
          have hl3 : g''.IsList T [.str (txt it.text) t1, mv, .str (txt it.part) t2].toArray := ⟨_, hT', rfl, _, rfl⟩
          rw [hl0] at hd'
          have hcl : IsLetter c := hyn.2 c (by rw [hl0, txt_cps]; exact List.mem_of_getElem? hc)
          obtain ⟨hcl1, hcl2⟩ := id hcl
          refine tests_isT (!(it.has c)) ?_ ?_
          · iterate 4 (walk_at "w")
            refine' item_n i ?z1 ?z2 ?z3 ?_
            case z1 => rfl
            case z2 => exact hc
            case z3 => omega
            iterate 4 (walk_at "w")
            refine item_listL (hIM'.at fun o e => F₆.keep _ o e) (by omega) (by omega) (by simpa using hv2) ?_
            walk_at "w"
            refine item_listA (hl3.at fun o e => F₆.keep _ o e) (by decide) (by decide) rfl ?_
            cases it with
            | lit d =>
              obtain ⟨tm, rfl⟩ := hmv
              iterate 2 (walk_at "w")
              exact ⟨by rw [gone_one, Bool.eq_iff_iff]; simp [Item.has], _, rfl⟩
            | any =>
              obtain ⟨tm, rfl⟩ := hmv
              iterate 2 (walk_at "w")
              exact ⟨by rw [gone_one]; simp [Item.has]; omega, _, rfl⟩
            | set neg l hh mo =>
              obtain ⟨T2, y2, n2, rfl, hT2, hy2⟩ := hmv
              have hl2 : g''.IsList T2 (List.toArray y2) := ⟨_, sub6' _ hT2, rfl, _, rfl⟩
              refine notin_list_strs (hl2.at fun o e => F₆.keep _ o e) hy2 ?_
              walk_at "w"
              exact ⟨by rw [any_letters' _ hcl], _, rfl⟩
          · intro kk
            cases hb : it.has c
            · rw [if_pos (by rfl)]
              refine nmL F₆ rfl rfl rfl rfl rfl ?_
              refine After.none F₆ N₆ ⟨rfl, nz ++ [(i : Int)], ?_, ?_⟩
              · exact hnz.append (.cons _ _ .nil)
              · rw [okTo_succ hit hc, hb]; simp
            · rw [if_neg (by decide)]
              refine After.none F₆ N₆ ⟨rfl, nz, hnz, ?_⟩
              rw [okTo_succ hit hc, hb, Bool.and_true]; exact hok
        · rintro D' h₈ tk₈ ys' tl' k' ⟨rfl, nz, hnz, hok⟩ hD' hk₈ eD' -
          have F₈ := F₅.keeps hk₈
          have N₈ := news_new F₅ (N₅.grown hk₈) hD' eD'
          clear F₅ N₅
          iterate 5 (walk_at "w")
          rename Fr _ C _ _ => F₉
          rename News _ C _ _ => N₉
          exact ⟨by rw [Bool.eq_iff_iff]; simpa using hok, _, _, rfl, F₉, fun p hp => N₉ p (.tail _ (.tail _ hp))⟩
      · rintro ok s' ⟨rfl, h', kk, rfl, F₉, N₉⟩
        have N10 : News g' C h' ([] ++ ([(C + 1, oc')] ++ (bs ++ []))) := fun p hp => N₉ p (by simpa using hp)
        cases hb : okTo its l its.length
        · rw [if_neg Bool.false_ne_true]
          refine ⟨h', kk, m', [(C + 1, oc')], [], rfl, F₉, N10, ⟨oc', _, rfl, hd'⟩, (fun _ hp => nomatch hp), rfl, ?_⟩
          rw [List.take_add_one, hye]
          rw [hl0] at hye ⊢
          simpa [txt_cps, hb] using hys
        · rw [if_pos rfl]
          refine wpAny_Name (wpAny_loadName_cell rfl rfl rfl ⟨oc', (N₉ _ (.head _)).1, hd'⟩ ?_) rfl
          refine ⟨h', kk, m', [(C + 1, oc')], [], rfl, F₉, N10, ⟨oc', _, rfl, hd'⟩, (fun _ hp => nomatch hp), rfl, ?_⟩
          rw [List.take_add_one, hye]
          have := hys.append' (.cons y ty .nil)
          rw [hl0] at this ⊢
          simpa [txt_cps, hb] using this
    · rintro D h₃ tk₃ ys k ⟨_, hys⟩ hD hk₃ eD hns
      rw [hwl, List.take_length, due_fnd] at hys
      obtain ⟨F₃, N₃, hlt⟩ := comp_fr F N hk₃ hns hD eD
      refine hK _ ⟨h₃, tk₃, _, D, k, ys, rfl, F₃, fun p hp => N₃ p ?_, hys, e1, e2, e3, rfl⟩
      replace hp := mem6 hp
      rcases hp with rfl | rfl | rfl | rfl | rfl | rfl <;> k_mem
  clear F N e1 e2 e3 e4
  rintro _ ⟨h, tk, m, DU, ndu, dus, rfl, F, N, hdu, e1, e2, e3, e4⟩
  have hnm : ∀ y ∈ xs, IsName y := fun y hy => hdn y (hpe.mem_iff.mp hy)
  have hxl := hpe.length_eq
  have hvl := strs_len hvs
  obtain ⟨pv, hpv1, hpv2⟩ : ∃ pv, pvs = pv ++ (if st = true then [Value.ref ST] else []) ∧ StrsAre pv (its.map fun it => txt it.part) := by
    cases st with
    | true => rw [if_pos rfl] at hparts; exact hparts
    | false => rw [if_neg Bool.false_ne_true] at hparts; exact ⟨pvs, by simp, hparts⟩
  have hpw : ∃ z, z = pv ∧ StrsAre z (its.map fun it => txt it.part) := ⟨pv, rfl, hpv2⟩
  have hvw : ∃ z, z = vs ∧ StrsAre z xs := ⟨vs, rfl, hvs⟩
  have hdw : ∃ z, z = dus ∧ StrsAre z (fnd its st xs 0 0 xs.length) := ⟨dus, rfl, hdu⟩
  have LFx := law_found w its hits.ok hi3 st ST NM PL xs (by omega) (fun y hy => (hnm y hy).2) (fun y hy => (hnm y hy).short) hso its.length 0 (by omega)
  iterate 26 (walk_at "w")
  replace hpv2 : StrsAre pv (its.map fun it => txt it.part) := by obtain ⟨_, rfl, h⟩ := hpw; exact h
  replace hvs : StrsAre vs xs := by obtain ⟨_, rfl, h⟩ := hvw; exact h
  have n101 := N (101, tabObj #[]) (by k_mem)
  show wpAny _ _ (call (.ref 106) [.ref NM, .ref PL, .ref ST, .int ((0 : Nat) : Int) _, .int ((0 : Nat) : Int) _, .int (xs.length : Int) _]) _ _ _
  refine' use2 (LFx _ _ g G ?fk g101 #[] n101.1 ?ft vs pv n np ?fn hvs ?fp hpv2 ?fd ?fu rfl 0 xs.length (Nat.le_refl _) _ _ _ [] rfl ?fr) ?_
  case fk => exact F.keep
  case ft => exact ⟨trivial, fun b cv hc => by cases hc⟩
  case fn => exact (N (NM, listOf (List.toArray vs) n) (by k_mem)).1
  case fp => rw [← hpv1]; exact (N (PL, listOf (List.toArray pvs) np) (by k_mem)).1
  case fd => show callerA.depth + 1 + 2 * (its.length - 0) + 6 < recursionLimit; have : callerA.depth + 1 + 2 * 3 + 6 < recursionLimit := (by decide +kernel); omega
  case fu => show callerA.units + 3 + 100 * (its.length - 0) + 100 < cLine; have : callerA.units + 3 + 100 * 3 + 100 < cLine := (by decide +kernel); omega
  case fr => exact fun i _ _ => ⟨(xs.getD i Str.empty).cps.toList, by simp [txt]⟩
  rintro v s₁ ⟨h₂, tk₂, ps₂, D, nD, ys, rfl, rfl, hk₂, e₂, _, hnew, hD, hys⟩
  have hne : ∀ p ∈ [(DU, listOf (List.toArray dus) ndu), (PL, listOf (List.toArray pvs) np), (ST, listOf #[.str (Str.ofString "*") t0] 0), (NM, listOf (List.toArray vs) n), (77, tabObj ps7)], p.1 ≠ 101 := by
    intro p hp
    replace hp := mem5 hp
    rcases hp with rfl | rfl | rfl | rfl | rfl
    · exact news_ne (oa := listOf (List.toArray dus) ndu) N (by k_mem) (by k_mem : (101, tabObj #[]) ∈ _) (fun q => nomatch q)
    · exact news_ne (oa := listOf (List.toArray pvs) np) N (by k_mem) (by k_mem : (101, tabObj #[]) ∈ _) (fun q => nomatch q)
    · exact news_ne (oa := listOf #[.str (Str.ofString "*") t0] 0) N (by k_mem) (by k_mem : (101, tabObj #[]) ∈ _) (fun q => nomatch q)
    · exact news_ne (oa := listOf (List.toArray vs) n) N (by k_mem) (by k_mem : (101, tabObj #[]) ∈ _) (fun q => nomatch q)
    · show (77 : Nat) ≠ 101; decide
  obtain ⟨F₂, N₂⟩ := after_tab F (P := 101) (o := tabObj #[]) (pre := [(DU, listOf (List.toArray dus) ndu), (PL, listOf (List.toArray pvs) np), (ST, listOf #[.str (Str.ofString "*") t0] 0), (NM, listOf (List.toArray vs) n), (77, tabObj ps7)]) (fun p hp => N p (by
    replace hp := mem6 hp
    rcases hp with rfl | rfl | rfl | rfl | rfl | rfl <;> k_mem)) hk₂ e₂ hne hnew hD
  clear F N n101 hnew hk₂
  walk_at "w"
  obtain ⟨_, rfl, hdu'⟩ := hdw
  refine eq_strs (N₂.get (.head _)) (N₂.get (.tail _ (.head _))) hys hdu' (fun y hy => name_okN (hnm y (List.mem_of_mem_drop (List.mem_of_mem_take (List.mem_filter.mp hy).1)))) ?eu ?_
  case eu => show callerA.units + 3 + 64 < cLine; decide +kernel
  iterate 2 (walk_at "w")
  refine ⟨fun b o h1 h2 e => F₂.keep b o (hgd ▸ hideAll_get _ e fun q => ?_), ⟨ps₂, (N₂ (101, tabObj ps₂) (by k_mem)).1⟩, ⟨ps7, (N₂ (77, tabObj ps7) (by k_mem)).1⟩, rfl, hgs⟩
  rcases List.mem_cons.mp q with q | q
  · exact h1 q
  · exact h2 (List.mem_singleton.mp q)
end Mine

end

theorem PySem.Challenge.cw_in0020_01_holds : PySem.Challenge.rw_in0020_01.Holds := by
  exact Mine.law_holds Mine.law_main
