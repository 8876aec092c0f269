import PyProof.Rows.All
import Wide.All
import OpenK.AllK
import Wide.FinOn
import KE.KDictOf
import KE.KItemsList
import KE.KPop
import PyProof.AttrMissHeap
import PyProof.DictTruth
import PyProof.EqKinds
import PyProof.ListIndexNeg
import PyProof.ListTruth
import PyProof.MeetsDictList
import PyProof.WalksMore
import PySem.Challenge.RW_fe0177_01
set_option Elab.async false
set_option linter.all false
section
open PySem PySem.W PyProof.Rows
set_option maxRecDepth 100000
set_option maxHeartbeats 8000000
namespace Mine
local macro_rules | `(tactic| k_head) => `(tactic| x_head)
open_top hd for PySem.Challenge.rw_fe0177_01
end Mine
end
theorem Mine.flush1 : True ∧ True := by
  w_top off
  try (fail_if_success walk1)
  exact ⟨trivial, trivial⟩
section
open PySem PySem.W PyProof.Rows PySem.Spec PySem.Calls PySem.W.X
set_option maxRecDepth 100000
set_option maxHeartbeats 8000000
namespace Mine
abbrev PG : Program := PySem.Challenge.rw_fe0177_01.prog
abbrev A0 : Around := { handled := none, depth := 900, frames := none, guards := none, units := 9000 }
noncomputable abbrev loose : List Str := looseW hd.view_39 [Str.ofString "ABC", Str.ofString "AbstractContextManager", Str.ofString "Var", Str.ofString "construction_sentinel", Str.ofString "stream_eval"]
def Ext (h h' : Heap) : Prop := ∀ b o, h.get? b = some o → h'.get? b = some o
theorem Ext.refl (h : Heap) : Ext h h := fun _ _ e => e
theorem Ext.trans {a b c : Heap} (x : Ext a b) (y : Ext b c) : Ext a c := fun _ _ e => y _ _ (x _ _ e)
theorem ext_of {h h' : Heap} {news} (D : Mem h h' [] news) : Ext h h' := fun b o e => D.keep b o e (by simp [away])

/-- a wider room -/
structure Fits (A : Around) (n : Nat) : Prop where
  handled : A.handled = none
  depth : A.depth + n ≤ 900
  units : A.units + 20 * n ≤ 9000

theorem wpAny_A0 {α : Type} {M : Model} {A : Around} {t : Sem α} {Q : α → Shared → Prop} {E : Value → Shared → Prop} {s : Shared} {n : Nat} (f : Fits A n) (h : wpAny M A0 t Q E s) : wpAny M A t Q E s := by
  intro Γ p hΓ
  refine h Γ p ⟨?_, ?_, ?_, ?_, ?_⟩
  · rw [hΓ.1, f.handled]
  · have := hΓ.2.1; have := f.depth; simp only [A0]; omega
  · intro l hl; cases hl
  · intro l hl; cases hl
  · have := hΓ.2.2.2.2; have := f.units; simp only [A0]; omega

/-- the facts of the top, at the law's start -/
structure Base (w : World) (hb : Heap) : Prop where
  kx : (hd.heap_39 w.params).In hb
  top : ∃ mean mg mb, Top hd.view_39 loose mean mg mb hb
  last : ∃ a o, hb.get? a = some o ∧ hb.objs.size = a + 1
theorem Base.size {w : World} {hb h : Heap} (B : Base w hb) (x : Ext hb h) : hb.objs.size ≤ h.objs.size := by
  obtain ⟨a, o, e, z⟩ := B.last
  rw [z]
  exact Heap.lt_size (x a o e)

inductive Tm where
  | var (k : Int)
  | int (i : Int)
  | tup2 (a b : Tm)
  | tup3 (a b : Tm)
  | lst (a b : Tm)
  | dct (a b : Tm)

abbrev varObj (dx : Addr) : Obj := instObj 185 dx
abbrev tokDict (hs : Int) (t : Tok) (k : Int) (tk : Tok) (ep : Nat) : Obj := { cls := .type "dict", data := .dict #[⟨hs, .str ⟨#[116, 111, 107, 101, 110]⟩ t, .int k tk⟩] ep }
abbrev tupObj (vs : List Value) (n : Nat) : Obj := { cls := .type "tuple", data := .seq vs.toArray n }
abbrev lstObj (vs : List Value) (n : Nat) : Obj := { cls := .type "list", data := .seq vs.toArray n }
abbrev dctObj (t0 t1 : Tok) (v w : Value) (n : Nat) : Obj := { cls := .type "dict", data := .dict #[⟨0, .int 0 t0, v⟩, ⟨1, .int 1 t1, w⟩] n }

/-- what a value is, over a points-to relation -/
inductive R (P : Addr → Obj → Prop) : Value → Tm → Prop where
  | int (i : Int) (tk : Tok) : R P (.int i tk) (.int i)
  | var {x dx : Addr} {hs : Int} {t : Tok} {k : Int} {tk : Tok} {ep : Nat} : P x (varObj dx) → P dx (tokDict hs t k tk ep) → R P (.ref x) (.var k)
  | tup2 {a : Addr} {v w : Value} {n : Nat} {t u : Tm} : P a (tupObj [v, w] n) → R P v t → R P w u → R P (.ref a) (.tup2 t u)
  | tup3 {a : Addr} {v w : Value} {z : Tok} {n : Nat} {t u : Tm} : P a (tupObj [v, .int 0 z, w] n) → R P v t → R P w u → R P (.ref a) (.tup3 t u)
  | lst {a : Addr} {v w : Value} {n : Nat} {t u : Tm} : P a (lstObj [v, w] n) → R P v t → R P w u → R P (.ref a) (.lst t u)
  | dct {a : Addr} {t0 t1 : Tok} {v w : Value} {n : Nat} {t u : Tm} : P a (dctObj t0 t1 v w n) → R P v t → R P w u → R P (.ref a) (.dct t u)
theorem R.mono {P P' : Addr → Obj → Prop} (h : ∀ a o, P a o → P' a o) {v : Value} {t : Tm} (r : R P v t) : R P' v t := by
  induction r with
  | int i tk => exact .int i tk
  | var a b => exact .var (h _ _ a) (h _ _ b)
  | tup2 a _ _ x y => exact .tup2 (h _ _ a) x y
  | tup3 a _ _ x y => exact .tup3 (h _ _ a) x y
  | lst a _ _ x y => exact .lst (h _ _ a) x y
  | dct a _ _ x y => exact .dct (h _ _ a) x y

/-- over a heap; made behind the base; not among what may turn -/
def At (hb h : Heap) (Av : Addr → Prop) (a : Addr) (o : Obj) : Prop := h.get? a = some o ∧ hb.get? a = none ∧ ¬ Av a
/-- over a ledger -/
abbrev RD (D : List (Addr × Obj)) : Value → Tm → Prop := R (fun a o => (a, o) ∈ D)
theorem RD.sub {D D' : List (Addr × Obj)} (x : ∀ p ∈ D, p ∈ D') {v : Value} {t : Tm} (r : RD D v t) : RD D' v t := r.mono fun _ _ y => x _ y
theorem At.ext {hb h h' : Heap} {Av : Addr → Prop} (x : Ext h h') {a : Addr} {o : Obj} (y : At hb h Av a o) : At hb h' Av a o := ⟨x _ _ y.1, y.2⟩

/-- a contract of a call over the bare heap -/
def RC (w : World) (hb : Heap) (f : Value) (args : List Value) (cost : Nat) (pre : (Addr → Obj → Prop) → Prop) (post : Value → (Addr → Obj → Prop) → Prop) : Prop :=
  ∀ (A : Around) (s : Shared) (Av : Addr → Prop), Fits A cost → Ext hb s.heap → (∀ a, Av a → ∃ o, s.heap.get? a = some o) → pre (At hb s.heap Av) → ∀ (Q E : Value → Shared → Prop),
    (∀ v h' tk, Ext s.heap h' → post v (At hb h' Av) → Q v { s with heap := h', toks := tk }) → wpAny (model PySem.Challenge.rw_fe0177_01.prog w) A (call f args) Q E s

/-- the whole of a heap beyond the base, as a ledger -/
def allOf (hb h : Heap) : List (Addr × Obj) := (List.range h.objs.size).filterMap fun a => match hb.get? a, h.get? a with
  | none, some o => some (a, o)
  | _, _ => none
theorem allOf_mem {hb h : Heap} {a : Addr} {o : Obj} : (a, o) ∈ allOf hb h ↔ hb.get? a = none ∧ h.get? a = some o := by
  unfold allOf
  rw [List.mem_filterMap]
  constructor
  · rintro ⟨c, _, e⟩
    split at e
    · rename_i e1 e2
      simp only [Option.some.injEq, Prod.mk.injEq] at e
      obtain ⟨rfl, rfl⟩ := e
      exact ⟨e1, e2⟩
    · cases e
  · rintro ⟨e1, e2⟩
    exact ⟨a, List.mem_range.mpr (Heap.lt_size e2), by rw [e1, e2]⟩


/-- all beyond the base but the addresses of a list -/
def allX (hb h : Heap) (X : List Addr) : List (Addr × Obj) := (allOf hb h).filter fun p => !X.contains p.1
theorem allX_mem {hb h : Heap} {X : List Addr} {a : Addr} {o : Obj} : (a, o) ∈ allX hb h X ↔ hb.get? a = none ∧ h.get? a = some o ∧ a ∉ X := by
  unfold allX
  rw [List.mem_filter, allOf_mem]
  simp [and_assoc]

theorem at_of {hb h₀ h : Heap} {Av : Addr → Prop} {news : List (Addr × Obj)} (x : Ext hb h₀) (hav : ∀ a, Av a → ∃ o, h₀.get? a = some o) (D : Mem h₀ h [] news) {a : Addr} {o : Obj} (hm : (a, o) ∈ news) : At hb h Av a o := by
  refine ⟨(D.nw _ hm).1, ?_, fun z => ?_⟩
  · cases q : hb.get? a with
    | none => rfl
    | some o' => have := (D.nw _ hm).2; rw [x a o' q] at this; cases this
  · obtain ⟨o', e⟩ := hav a z
    have := (D.nw _ hm).2; rw [e] at this; cases this
theorem x_done {s : Shared} {h' : Heap} {news : List (Addr × Obj)} {Q : Value → Shared → Prop} {P : Value → Heap → Prop} {v : Value} {tk : Nat}
    (hQ : ∀ v h' tk, Ext s.heap h' → P v h' → Q v { s with heap := h', toks := tk }) (D : Mem s.heap h' [] news) (hp : P v h') : Q v ⟨h', s.gens, s.drawn, tk, s.os⟩ := hQ v h' tk (ext_of D) hp

theorem Fr_ext {hb h h' : Heap} {L : Addr} {m : Str → Option Value} (F : Fr hb L h m) (x : Ext h h') : Fr hb L h' m := ⟨F.ns.keeps x, fun b o e => x _ _ (F.keep b o e), F.above⟩
theorem News_ext {hb h h' : Heap} {L : Addr} {D : List (Addr × Obj)} (N : News hb L h D) (x : Ext h h') : News hb L h' D := fun p hp => ⟨x _ _ (N p hp).1, (N p hp).2⟩
theorem News_all {hb h : Heap} {L : Addr} {X : List Addr} (hL : L ∈ X) : News hb L h (allX hb h X) := fun p hp => by
  have z := (allX_mem (a := p.1) (o := p.2)).mp hp
  exact ⟨z.2.1, fun e => z.2.2 (e ▸ hL), z.1⟩
theorem News_app {hb h : Heap} {L : Addr} {D D' : List (Addr × Obj)} (N : News hb L h D) (N' : News hb L h D') : News hb L h (D ++ D') := fun p hp => (List.mem_append.mp hp).elim (N p) (N' p)

/-- from the end of a walk: what an earlier heap held is held -/
theorem walk_keeps {hb h h' : Heap} {L : Addr} {m : Str → Option Value} {X : List Addr} {news : List (Addr × Obj)} (F : Fr hb L h' m) (N : News hb L h' news) (x : Ext hb h) (hs : ∀ p ∈ allX hb h X, p ∈ news) {a : Addr} {o : Obj} (hX : a ∉ X) (e : h.get? a = some o) : h'.get? a = some o := by
  cases q : hb.get? a with
  | none => exact (N _ (hs _ (allX_mem.mpr ⟨q, e, hX⟩))).1
  | some o' =>
    have z := x a o' q
    rw [e] at z
    cases z
    exact F.keep _ _ q
theorem walk_ext {hb h h' : Heap} {L : Addr} {m : Str → Option Value} {news : List (Addr × Obj)} (F : Fr hb L h' m) (N : News hb L h' news) (x : Ext hb h) (hs : ∀ p ∈ allX hb h [], p ∈ news) : Ext h h' := fun _ _ e => walk_keeps F N x hs List.not_mem_nil e


/-- in hand, in a walk: in the ledger, not among what may turn -/
def PD (D : List (Addr × Obj)) (Av : Addr → Prop) (a : Addr) (o : Obj) : Prop := (a, o) ∈ D ∧ ¬ Av a
/-- what a walk knows of where it came from -/
structure Wk (hb h₀ : Heap) (Av : Addr → Prop) (L : Addr) (D : List (Addr × Obj)) : Prop where
  ext : Ext hb h₀
  av : ∀ a, Av a → ∃ o, h₀.get? a = some o
  off : h₀.get? L = none
  all : ∀ p ∈ allX hb h₀ [], p ∈ D
theorem Wk.sub {hb h₀ : Heap} {Av : Addr → Prop} {L : Addr} {D D' : List (Addr × Obj)} (W : Wk hb h₀ Av L D) (h : ∀ p ∈ D, p ∈ D') : Wk hb h₀ Av L D' := ⟨W.ext, W.av, W.off, fun p hp => h p (W.all p hp)⟩
theorem Wk.cons {hb h₀ : Heap} {Av : Addr → Prop} {L : Addr} {D : List (Addr × Obj)} {q : Addr × Obj} (W : Wk hb h₀ Av L D) : Wk hb h₀ Av L (q :: D) := W.sub fun _ => List.mem_cons_of_mem _
theorem Wk.done {hb h₀ h : Heap} {Av : Addr → Prop} {L : Addr} {D : List (Addr × Obj)} {m : Str → Option Value} (W : Wk hb h₀ Av L D) (F : Fr hb L h m) (N : News hb L h D) : Ext h₀ h := walk_ext F N W.ext W.all
theorem PD.at {hb h : Heap} {Av : Addr → Prop} {L : Addr} {D : List (Addr × Obj)} (N : News hb L h D) {a : Addr} {o : Obj} (x : PD D Av a o) : At hb h Av a o := ⟨(N _ x.1).1, (N _ x.1).2.2, x.2⟩
theorem PD.sub {Av : Addr → Prop} {D D' : List (Addr × Obj)} (h : ∀ p ∈ D, p ∈ D') {a : Addr} {o : Obj} (x : PD D Av a o) : PD D' Av a o := ⟨h _ x.1, x.2⟩
theorem Wk.pd {hb h₀ : Heap} {Av : Addr → Prop} {L : Addr} {D : List (Addr × Obj)} (W : Wk hb h₀ Av L D) {a : Addr} {o : Obj} (x : At hb h₀ Av a o) : PD D Av a o := ⟨W.all _ (allX_mem.mpr ⟨x.2.1, x.1, List.not_mem_nil⟩), x.2.2⟩
/-- a new object is not among what may turn -/
theorem Wk.new {hb h₀ h : Heap} {Av : Addr → Prop} {L : Addr} {D D' : List (Addr × Obj)} (W : Wk hb h₀ Av L D) {a : Addr} {o : Obj} (hm : (a, o) ∈ D') (N : News hb L h D') (hl : ∀ p ∈ D, p.1 < a) : PD D' Av a o := by
  refine ⟨hm, fun z => ?_⟩
  obtain ⟨o', e⟩ := W.av a z
  exact absurd (hl (a, o') (W.all _ (allX_mem.mpr ⟨(N _ hm).2.2, e, List.not_mem_nil⟩))) (Nat.lt_irrefl _)

section
variable {w : World} {hb : Heap} {A : Around} {s : Shared} {R : Result → Shared → Prop} {name qual : Str} {params : Arguments} {body : List Stmt} {scope : Scope} {dV kV doc pm cdv ct oc : Value} {an od : Option Addr} {osl : Array (Option Value)} {f : Addr} {args : Args} {binds : List (Str × Value)}
/-- into a def of the text, over the base: all beyond it is the ledger -/
theorem enter (B : Base w hb) (X : Ext hb s.heap) {Av : Addr → Prop} (hav : ∀ a, Av a → ∃ o, s.heap.get? a = some o)
    (ho : (hd.heap_39 w.params).lookup f = some ⟨oc, od, .func (fnOf name qual params body scope dV kV doc pm an cdv ct), osl⟩) (hcd : codeIn (hd.heap_39 w.params) cdv qual = true) (hroom : A.depth < recursionLimit)
    (hbind : BindsTo s (fnOf name qual params body scope dV kV doc pm an cdv ct) args binds) (hloc : ∀ y ∈ binds, scope.names.lookup y.1 = some .local)
    (hco : scope.isCoroutine = false) (hgen : scope.isGenerator = false) (hk : scope.kind = .function) (hcell : ∀ x ∈ scope.names, x.2 ≠ .cell)
    (h : ∀ L h₁ D, Fr hb L h₁ (fun y => binds.reverse.lookup y) → News hb L h₁ D → (∀ p ∈ D, p.1 < L) → Wk hb s.heap Av L D →
      wpAny (model PySem.Challenge.rw_fe0177_01.prog w) (A.deeper (envOf qual scope L f cdv)) (execs body (envOf qual scope L f cdv))
        (fun fl s' => R (.ok (.ret (match fl with | .ret v => v | _ => .none))) s')
        (fun e s' => wpAny (model PySem.Challenge.rw_fe0177_01.prog w) (A.deeper (envOf qual scope L f cdv)) (leaving (envOf qual scope L f cdv) e) (fun _ s'' => R (.error e) s'') (fun e' s'' => R (.error e') s'') s')
        { s with heap := h₁, toks := s.toks + binds.length }) :
    codeAny (model PySem.Challenge.rw_fe0177_01.prog w) A (.call (.ref f) args) R s := by
  obtain ⟨mean, mg, mb, T⟩ := B.top
  have X₀ := B.kx.keeps X
  have nl : s.heap.get? s.heap.objs.size = none := by
    cases q : s.heap.get? s.heap.objs.size with
    | none => rfl
    | some o => exact absurd (Heap.lt_size q) (Nat.lt_irrefl _)
  refine codeAny_call_def (fd := fnOf name qual params body scope dV kV doc pm an cdv ct) (body := body) (binds := binds) hroom (X₀ _ _ ho) rfl (T.nolimit.keeps X) (codeRec_of X₀ hcd) rfl hbind hcell hloc (fun h₁ hns hk₁ => ?_) hco hgen hk
  refine h _ h₁ (allX hb s.heap []) ⟨hns, fun b o e => hk₁ b o (X b o e), B.size X⟩ (fun p hp => ?_) (fun p hp => Heap.lt_size (allX_mem.mp hp).2.1) ⟨X, hav, nl, fun _ h => h⟩
  have z := (allX_mem (a := p.1) (o := p.2)).mp hp
  exact ⟨hk₁ _ _ z.2.1, Nat.ne_of_lt (Heap.lt_size z.2.1), z.1⟩
end

section
variable {w : World} {hb : Heap} {A : Around} {s : Shared} {R : Result → Shared → Prop} {name qual : Str} {params : Arguments} {body : List Stmt} {scope : Scope} {dV kV doc pm cdv ct oc : Value} {an od : Option Addr} {osl : Array (Option Value)} {f : Addr} {args : Args} {binds : List (Str × Value)}
/-- into a def with cells -/
theorem enterC (B : Base w hb) (X : Ext hb s.heap) {Av : Addr → Prop} (hav : ∀ a, Av a → ∃ o, s.heap.get? a = some o)
    (ho : (hd.heap_39 w.params).lookup f = some ⟨oc, od, .func (fnOf name qual params body scope dV kV doc pm an cdv ct), osl⟩) (hcd : codeIn (hd.heap_39 w.params) cdv qual = true) (hroom : A.depth < recursionLimit)
    (hbind : BindsTo s (fnOf name qual params body scope dV kV doc pm an cdv ct) args binds) (hkind : (binds.all fun y => scope.names.lookup y.1 == some .local || scope.names.lookup y.1 == some .cell) = true)
    (hnd : ((cellsFrom 0 scope.names []).map (·.1)).Nodup) (hco : scope.isCoroutine = false) (hgen : scope.isGenerator = false) (hk : scope.kind = .function)
    (h : ∀ L h₁ tk D cells, Fr hb L h₁ (bindL (envOfC qual scope L f cdv).kindOf binds fun _ => none) → News hb L h₁ (cells ++ D) →
      CellsAre (bindC (envOfC qual scope L f cdv).kindOf binds fun _ => none) (cellsFrom (L + 1) scope.names []) cells → (∀ p ∈ D, p.1 < L) → Wk hb s.heap Av L D →
      wpAny (model PySem.Challenge.rw_fe0177_01.prog w) (A.deeper (envOfC qual scope L f cdv)) (execs body (envOfC qual scope L f cdv))
        (fun fl s' => R (.ok (.ret (match fl with | .ret v => v | _ => .none))) s')
        (fun e s' => wpAny (model PySem.Challenge.rw_fe0177_01.prog w) (A.deeper (envOfC qual scope L f cdv)) (leaving (envOfC qual scope L f cdv) e) (fun _ s'' => R (.error e) s'') (fun e' s'' => R (.error e') s'') s')
        { s with heap := h₁, toks := tk }) :
    codeAny (model PySem.Challenge.rw_fe0177_01.prog w) A (.call (.ref f) args) R s := by
  obtain ⟨mean, mg, mb, T⟩ := B.top
  have X₀ := B.kx.keeps X
  have nl : s.heap.get? s.heap.objs.size = none := by
    cases q : s.heap.get? s.heap.objs.size with
    | none => rfl
    | some o => exact absurd (Heap.lt_size q) (Nat.lt_irrefl _)
  refine codeAny_call_function (fd := fnOf name qual params body scope dV kV doc pm an cdv ct) hroom (X₀ _ _ ho) rfl hco hgen rfl (codeRec_of X₀ hcd) (hbind _ _ _ _ ?_)
  refine wpAny_newFunctionEnv_cells hk (kindsX hkind _) fun env' he s' x => ?_
  subst he
  refine ⟨(T.nolimit.keeps X).keeps x.toInCall.keep, codeAny_func ?_⟩
  obtain ⟨h₁, tk, rfl, _⟩ := x.done
  have hk₁ := x.toInCall.keep
  obtain ⟨cells, NC, Y⟩ := Cl.news (h₀ := s.heap) (Nat.le_refl _) fun n c hm => ⟨x.cell n c (lookup_of_mem_nodup (cellsFrom_names scope.names 0 (s.heap.objs.size + 1) [] [] rfl ▸ hnd) hm), x.above n c hm⟩
  refine h _ h₁ tk (allX hb s.heap []) cells ⟨x.toInCall.ns, fun b o e => hk₁ b o (X b o e), B.size X⟩ (fun p hp => ?_) Y (fun p hp => Heap.lt_size (allX_mem.mp hp).2.1) ⟨X, hav, nl, fun _ h => h⟩
  rcases List.mem_append.mp hp with hp | hp
  · refine ⟨(NC p hp).1, (NC p hp).2.1, ?_⟩
    cases q : hb.get? p.1 with
    | none => rfl
    | some o => have := X _ _ q; rw [(NC p hp).2.2] at this; cases this
  · have z := (allX_mem (a := p.1) (o := p.2)).mp hp
    exact ⟨hk₁ _ _ z.2.1, Nat.ne_of_lt (Heap.lt_size z.2.1), z.1⟩
end

section
variable {w : World} {hb h₀ : Heap} {A : Around} {s : Shared} {f : Value} {args : List Value} {cost : Nat} {pre : (Addr → Obj → Prop) → Prop} {post : Value → (Addr → Obj → Prop) → Prop} {L : Addr} {m : Str → Option Value} {D : List (Addr × Obj)} {Q E : Value → Shared → Prop} {Av : Addr → Prop}
/-- a contract used in a walk whose ledger holds nothing that turns -/
theorem RC.use (C : RC w hb f args cost pre post) (F : Fr hb L s.heap m) (N : News hb L s.heap D) (W : Wk hb h₀ Av L D) (fit : Fits A cost) (hpre : pre (PD D Av))
    (hm : ∀ P P' : Addr → Obj → Prop, (∀ a o, P a o → P' a o) → pre P → pre P') (hn : ∀ v, ∀ P P' : Addr → Obj → Prop, (∀ a o, P a o → P' a o) → post v P → post v P')
    (ret : ∀ v h' tk D', Fr hb L h' m → News hb L h' D' → (∀ p ∈ D, p ∈ D') → Wk hb h₀ Av L D' → post v (PD D' Av) → Q v { s with heap := h', toks := tk }) :
    wpAny (model PySem.Challenge.rw_fe0177_01.prog w) A (call f args) Q E s := by
  refine C A s (fun a => Av a ∨ a = L) fit F.keep (fun a ha => ?_) (hm _ _ (fun a o x => ?_) hpre) Q E fun v h' tk x p => ?_
  · rcases ha with ha | rfl
    · obtain ⟨o, e⟩ := W.av a ha
      exact ⟨o, W.done F N a o e⟩
    · obtain ⟨oL, _, _, hL, _⟩ := F.ns
      exact ⟨oL, hL⟩
  · exact ⟨(N _ x.1).1, (N _ x.1).2.2, fun z => z.elim x.2 (N _ x.1).2.1⟩
  · have sub : ∀ p ∈ D, p ∈ allX hb h' [L] := fun p hp => allX_mem.mpr ⟨(N p hp).2.2, x _ _ (N p hp).1, fun q => (N p hp).2.1 (List.mem_singleton.mp q)⟩
    exact ret v h' tk (allX hb h' [L]) (Fr_ext F x) (News_all (.head _)) sub (W.sub sub) (hn v _ _ (fun a o y => ⟨allX_mem.mpr ⟨y.2.1, y.1, fun q => y.2.2 (.inr (List.mem_singleton.mp q))⟩, fun z => y.2.2 (.inl z)⟩) p)
end
section
variable {w : World} {hb h₀ : Heap} {A : Around} {s : Shared} {f : Value} {args : List Value} {cost : Nat} {pre : (Addr → Obj → Prop) → Prop} {post : Value → (Addr → Obj → Prop) → Prop} {L : Addr} {m : Str → Option Value} {D : List (Addr × Obj)} {Q E : Value → Shared → Prop} {Av : Addr → Prop}
/-- a contract used in a walk whose ledger holds, ahead, what may turn -/
theorem RC.useX (C : RC w hb f args cost pre post) (mu : List (Addr × Obj)) (F : Fr hb L s.heap m) (N : News hb L s.heap (mu ++ D)) (off : ∀ p ∈ D, p.1 ∉ mu.map (·.1)) (W : Wk hb h₀ Av L D) (fit : Fits A cost) (hpre : pre (PD D Av))
    (hm : ∀ P P' : Addr → Obj → Prop, (∀ a o, P a o → P' a o) → pre P → pre P') (hn : ∀ v, ∀ P P' : Addr → Obj → Prop, (∀ a o, P a o → P' a o) → post v P → post v P')
    (ret : ∀ v h' tk D', Fr hb L h' m → News hb L h' (mu ++ D') → (∀ p ∈ D', p.1 ∉ mu.map (·.1)) → (∀ p ∈ D, p ∈ D') → Wk hb h₀ Av L D' → post v (PD D' Av) → Q v { s with heap := h', toks := tk }) :
    wpAny (model PySem.Challenge.rw_fe0177_01.prog w) A (call f args) Q E s := by
  have ND : News hb L s.heap D := fun p hp => N p (List.mem_append_right _ hp)
  refine C A s (fun a => Av a ∨ a ∈ L :: mu.map (·.1)) fit F.keep (fun a ha => ?_) (hm _ _ (fun a o x => ?_) hpre) Q E fun v h' tk x p => ?_
  · rcases ha with ha | ha
    · obtain ⟨o, e⟩ := W.av a ha
      exact ⟨o, W.done F ND a o e⟩
    · rcases List.mem_cons.mp ha with rfl | ha
      · obtain ⟨oL, _, _, hL, _⟩ := F.ns
        exact ⟨oL, hL⟩
      · obtain ⟨q, hq, rfl⟩ := List.mem_map.mp ha
        exact ⟨q.2, (N q (List.mem_append_left _ hq)).1⟩
  · refine ⟨(ND _ x.1).1, (ND _ x.1).2.2, fun z => z.elim x.2 fun z => ?_⟩
    rcases List.mem_cons.mp z with rfl | z
    · exact (ND _ x.1).2.1 rfl
    · exact off _ x.1 z
  · have sub : ∀ p ∈ D, p ∈ allX hb h' (L :: mu.map (·.1)) := fun p hp => allX_mem.mpr ⟨(ND p hp).2.2, x _ _ (ND p hp).1, fun q => (List.mem_cons.mp q).elim (ND p hp).2.1 (off p hp)⟩
    have N' : News hb L h' mu := fun p hp => ⟨x _ _ (N p (List.mem_append_left _ hp)).1, (N p (List.mem_append_left _ hp)).2⟩
    refine ret v h' tk (allX hb h' (L :: mu.map (·.1))) (Fr_ext F x) (News_app N' (News_all (.head _))) (fun p hp => ?_) sub (W.sub sub) (hn v _ _ (fun a o y => ⟨allX_mem.mpr ⟨y.2.1, y.1, fun q => y.2.2 (.inr q)⟩, fun z => y.2.2 (.inl z)⟩) p)
    exact fun q => (allX_mem.mp hp).2.2 (List.mem_cons_of_mem _ q)
end
theorem Fits.deeper {A : Around} {n : Nat} {env : Env} (f : Fits A (n + 1)) : Fits (A.deeper env) n := ⟨f.handled, by have := f.depth; simp only [depth_deeper]; omega, by have := f.units; simp only [units_deeper]; omega⟩
theorem Fits.less {A : Around} {n m : Nat} (f : Fits A n) (h : m ≤ n) : Fits A m := ⟨f.handled, by have := f.depth; omega, by have := f.units; omega⟩
theorem Fits.go {A : Around} {n m : Nat} {env : Env} (f : Fits A n) (h : m + 1 ≤ n) : Fits (A.deeper env) m := Fits.deeper (f.less h)
theorem Fits.room {A : Around} {n : Nat} (f : Fits A n) : A.depth < recursionLimit := by have := f.depth; simp only [recursionLimit]; omega
theorem mono_true : ∀ P P' : Addr → Obj → Prop, (∀ a o, P a o → P' a o) → True → True := fun _ _ _ h => h
theorem mono_R {t : Tm} : ∀ v : Value, ∀ P P' : Addr → Obj → Prop, (∀ a o, P a o → P' a o) → R P v t → R P' v t := fun _ _ _ h r => r.mono h
theorem mono_R1 {v : Value} {t : Tm} : ∀ P P' : Addr → Obj → Prop, (∀ a o, P a o → P' a o) → R P v t → R P' v t := fun _ _ h r => r.mono h

section
variable {hb h₀ h' : Heap} {Av : Addr → Prop} {L a : Addr} {D₁ D₂ : List (Addr × Obj)} {v u : Value} {n : Nat} {z : Tok} {t₁ t₂ : Tm}
theorem fin_sub (N : News hb L h' D₂) (s : ∀ p ∈ D₁, p ∈ D₂) (p : R (PD D₁ Av) v t₁) : R (At hb h' Av) v t₁ := p.mono fun _ _ y => PD.at N (PD.sub s y)
theorem fin_tup2 (N : News hb L h' ((a, tupObj [v, u] n) :: D₂)) (W : Wk hb h₀ Av L D₂) (l : ∀ p ∈ D₂, p.1 < a) (p1 : R (PD D₁ Av) v t₁) (s : ∀ p ∈ D₁, p ∈ D₂) (p2 : R (PD D₂ Av) u t₂) : R (At hb h' Av) (.ref a) (.tup2 t₁ t₂) :=
  .tup2 (PD.at N (W.new (.head _) N l)) (p1.mono fun _ _ y => PD.at N (PD.sub (fun p hp => .tail _ (s p hp)) y)) (p2.mono fun _ _ y => PD.at N (PD.sub (fun _ => List.mem_cons_of_mem _) y))
theorem fin_tup3 (N : News hb L h' ((a, tupObj [v, .int 0 z, u] n) :: D₂)) (W : Wk hb h₀ Av L D₂) (l : ∀ p ∈ D₂, p.1 < a) (p1 : R (PD D₁ Av) v t₁) (s : ∀ p ∈ D₁, p ∈ D₂) (p2 : R (PD D₂ Av) u t₂) : R (At hb h' Av) (.ref a) (.tup3 t₁ t₂) :=
  .tup3 (PD.at N (W.new (.head _) N l)) (p1.mono fun _ _ y => PD.at N (PD.sub (fun p hp => .tail _ (s p hp)) y)) (p2.mono fun _ _ y => PD.at N (PD.sub (fun _ => List.mem_cons_of_mem _) y))
theorem fin_lst (N : News hb L h' ((a, lstObj [v, u] n) :: D₂)) (W : Wk hb h₀ Av L D₂) (l : ∀ p ∈ D₂, p.1 < a) (p1 : R (PD D₁ Av) v t₁) (s : ∀ p ∈ D₁, p ∈ D₂) (p2 : R (PD D₂ Av) u t₂) : R (At hb h' Av) (.ref a) (.lst t₁ t₂) :=
  .lst (PD.at N (W.new (.head _) N l)) (p1.mono fun _ _ y => PD.at N (PD.sub (fun p hp => .tail _ (s p hp)) y)) (p2.mono fun _ _ y => PD.at N (PD.sub (fun _ => List.mem_cons_of_mem _) y))
theorem fin_dct {o : Obj} (N : News hb L h' ((a, o) :: D₂)) (W : Wk hb h₀ Av L D₂) (l : ∀ p ∈ D₂, p.1 < a) (p1 : R (PD D₁ Av) v t₁) (s : ∀ p ∈ D₁, p ∈ D₂) (p2 : R (PD D₂ Av) u t₂) (ho : ∃ t0 t1 n, o = dctObj t0 t1 v u n) : R (At hb h' Av) (.ref a) (.dct t₁ t₂) := by
  obtain ⟨t0, t1, n, rfl⟩ := ho
  exact .dct (PD.at N (W.new (.head _) N l)) (p1.mono fun _ _ y => PD.at N (PD.sub (fun p hp => .tail _ (s p hp)) y)) (p2.mono fun _ _ y => PD.at N (PD.sub (fun _ => List.mem_cons_of_mem _) y))
end
end Mine
end
theorem Mine.flush2 : True ∧ True := by
  w_top off
  try (fail_if_success walk1)
  exact ⟨trivial, trivial⟩
section
open PySem PySem.W PyProof.Rows PySem.Spec PySem.Calls PySem.W.X
set_option maxRecDepth 100000
set_option maxHeartbeats 8000000
namespace Mine
section
variable {prog : Program} {w : World} {A : Around} {E : Value → Shared → Prop} {s : Shared} {h₀ : Heap} {L : Addr} {m : Str → Option Value} {env : Env}
def SrcT (ax : Addr) (its : Array Value) (news : List (Addr × Obj)) : Prop := ∃ o, (ax, o) ∈ news ∧ o.cls = .type "tuple" ∧ ∃ n, o.data = .seq its n
theorem SrcT.tup {h : Heap} {ax : Addr} {its : Array Value} {news : List (Addr × Obj)} (x : SrcT ax its news) (N : News h₀ L h news) : h.IsTuple ax its := by
  obtain ⟨o, hm, hc, n, hd⟩ := x
  exact ⟨o, (N _ hm).1, hc, n, hd⟩
theorem tuple_st {ax I : Addr} {its : Array Value} : ∀ i (h h' : Heap) (o : Obj) (nw : List (Addr × Obj)), (h.IsTupleIter I ax i ∧ h.IsTuple ax its) → h.get? I = some o → h'.get? I = some o → (∀ b o, h₀.get? b = some o → h'.get? b = some o) → News h₀ L h' nw → SrcT ax its nw → (h'.IsTupleIter I ax i ∧ h'.IsTuple ax its) :=
  fun i h h' o nw st e e' k N S => ⟨by obtain ⟨o', q, r⟩ := st.1; rw [e] at q; cases q; exact ⟨o, e', r⟩, S.tup N⟩
def CompT (prog : Program) (w : World) (A : Around) (h₀ : Heap) (L : Addr) (m : Str → Option Value) (env : Env) (elt : Expr) (x : Str) (scope : Scope) (cl : List (Str × Addr)) (Q : Value → Shared → Prop) (xv : Value) (s₁ : Shared) : Prop :=
  ∃ ax its news, xv = .ref ax ∧ Fr h₀ L s₁.heap m ∧ News h₀ L s₁.heap news ∧ SrcT ax its news ∧ its.size ≤ sizeLine ∧
      ∀ s₂ : Shared, (∃ h, s₂ = { s₁ with heap := h }) → LCg.CompRest prog w A h₀ L m env elt x scope cl s₂ (SrcT ax its) (fun i v => its[i]? = some v) (LCg.FinE h₀ L m s₂ Q) its.size 0 [] news
theorem CompT.intro {elt : Expr} {x : Str} {scope : Scope} {cl : List (Str × Addr)} {Q : Value → Shared → Prop} {ax : Addr} {its : List Value} {k : Nat} {news : List (Addr × Obj)} {s₁ : Shared} (F : Fr h₀ L s₁.heap m) (N : News h₀ L s₁.heap news)
    (hm : (ax, tupObj its k) ∈ news) (hsz : its.length ≤ sizeLine) (h : ∀ g, LCg.CompRest prog w A h₀ L m env elt x scope cl { s₁ with heap := g } (SrcT ax its.toArray) (fun i v => its.toArray[i]? = some v) (LCg.FinE h₀ L m { s₁ with heap := g } Q) its.length 0 [] news) :
    CompT prog w A h₀ L m env elt x scope cl Q (.ref ax) s₁ := ⟨ax, its.toArray, news, rfl, F, N, ⟨_, hm, rfl, _, rfl⟩, by rw [List.size_toArray]; exact hsz, fun s₂ hs => by obtain ⟨g, rfl⟩ := hs; rw [List.size_toArray]; exact h g⟩
/-- a list comprehension over a tuple of the ledger -/
theorem ListComp_T {elt iter : Expr} {x : Str} {px : Pos} {scope : Scope} {cl : List (Str × Addr)} {pos : Pos} {Q : Value → Shared → Prop} (_F₀ : Fr h₀ L s.heap m) (hh : A.handled = none)
    (hclos : closureFor scope env = pure cl) (hcell : ∀ y ∈ scope.names, y.2 ≠ .cell) (hkind : scope.kind = .function)
    (hnames : ∀ y ∈ scope.names, y.2 = .local → scope.names.lookup y.1 = some .local) (hx : scope.names.lookup x = some .local)
    (h : wpAny (model prog w) A (eval iter env) (CompT prog w A h₀ L m env elt x scope cl Q) E s)
    (hs : ∀ x, foldedSetIterable iter env x = pure x := by intro _; rfl) :
    wpAny (model prog w) A (eval (.ListComp elt [⟨.Name x px, iter, [], 0⟩] scope pos) env) Q E s := by
  rw [eval_ListComp]
  refine wpAny_comprehension_free (use := none) rfl hs hclos hkind hnames (wpAny_mono h (fun xv s₁ h₁ => ?_) fun _ _ e => e)
  obtain ⟨ax, its, news, rfl, F, N, S, hsz, R⟩ := h₁
  have hl := S.tup N
  have hlt : ax < s₁.heap.objs.size := by obtain ⟨_, e, _⟩ := hl; exact Heap.lt_size e
  refine wpAny_pyIter_tuple hl ?_
  have up : ∀ b o, s₁.heap.get? b = some o → (s₁.heap.push { cls := .type "tuple_iterator", data := .fields #[.ref ax, .int 0 0] }).get? b = some o := fun b o e => Heap.get?_push_of_some _ e
  refine LCg.block_U (Walks.tuple hh s₁.heap.objs.size ax (Nat.ne_of_lt hlt) its) hsz (fun i h st => by obtain ⟨o, e, _⟩ := st.1; exact ⟨o, e⟩) tuple_st hcell hkind hx ⟨⟨_, Heap.get?_push_size _ rfl, rfl, rfl⟩, by obtain ⟨o, e, r⟩ := hl; exact ⟨o, up _ _ e, r⟩⟩ (fun b hb => ?_)
    (F.keeps up) (N.grown up) (Nat.ne_of_lt F.ns.lt) (next_is_new F) (fun p hp => Nat.ne_of_lt (Heap.lt_size (N p hp).1)) S (R _ ⟨_, rfl⟩) ?_
  · show b < (s₁.heap.push _).objs.size
    rw [Heap.size_push]
    rcases List.mem_cons.mp hb with rfl | hb
    · exact Nat.lt_succ_self _
    · rw [List.mem_singleton.mp hb]; exact Nat.lt_succ_of_lt hlt
  · intro D C h tk m' ys news' F' N' o1 hn hC₀ hD₀ hCL hDL hCD offC fin
    refine ⟨m', hn, fun h'' hs'' => fin D h'' tk (F'.change hs'' hCL hC₀) (fun p hp => ?_) o1⟩
    refine ⟨hs''.extBut _ _ ?_ (N' p hp).1, (N' p hp).2⟩
    rcases List.mem_cons.mp hp with rfl | hp
    · exact Ne.symm hCD
    · exact offC p hp
theorem off3_of {I C D : Addr} {oI oC oD : Obj} {D' : List (Addr × Obj)} (h : ∀ p ∈ D', p.1 ∉ [(I, oI), (C, oC), (D, oD)].map (·.1)) : LCg.Off3 I C D D' := LCg.Off3.of fun p hp => by
  have z := h p hp
  simp only [List.map_cons, List.map_nil, List.mem_cons, List.not_mem_nil, or_false, not_or] at z
  exact z
theorem of_off3 {I C D : Addr} {oI oC oD : Obj} {D' : List (Addr × Obj)} (h : LCg.Off3 I C D D') : ∀ p ∈ D', p.1 ∉ [(I, oI), (C, oC), (D, oD)].map (·.1) := fun p hp => by
  have z := LCg.Off3.mem h p hp
  simp only [List.map_cons, List.map_nil, List.mem_cons, List.not_mem_nil, or_false, not_or]
  exact z
theorem compEnd_T {I C Dd ax : Addr} {its : Array Value} {s₁ : Shared} {oI oC oD : Obj} {rest : Value → List (Addr × Obj) → Prop} {y : Value} {h' : Heap} {tk : Nat} {D D' : List (Addr × Obj)} (F : Fr h₀ L h' m) (N : News h₀ L h' ([(I, oI), (C, oC), (Dd, oD)] ++ D'))
    (off : ∀ p ∈ D', p.1 ∉ [(I, oI), (C, oC), (Dd, oD)].map (·.1)) (sub : ∀ p ∈ D, p ∈ D') (S : SrcT ax its D) (r : SrcT ax its D' → rest y D') : LCg.CompEnd h₀ L m s₁ I oI C oC Dd oD (SrcT ax its) rest y { s₁ with heap := h', toks := tk } := by
  have S' : SrcT ax its D' := by obtain ⟨o, hm, e⟩ := S; exact ⟨o, sub _ hm, e⟩
  exact ⟨h', tk, D', rfl, F, N, off3_of off, S', r S'⟩
end
end Mine
end
theorem Mine.flush3 : True ∧ True := by
  w_top off
  try (fail_if_success walk1)
  exact ⟨trivial, trivial⟩
section
open PySem PySem.W PyProof.Rows PySem.Spec PySem.Calls PySem.W.X
set_option maxRecDepth 100000
set_option maxHeartbeats 8000000
namespace Mine
local macro_rules | `(tactic| x_close) => `(tactic| (refine x_done (by assumption) (by assumption) ?_; refine' R.var (at_of (by assumption) (by assumption) (by assumption) ?m1) (at_of (by assumption) (by assumption) (by assumption) ?m2); (case m1 => k_mem); (case m2 => k_mem)))
theorem var_raw {w : World} {s : Shared} {hb : Heap} {Av : Addr → Prop} : (hd.heap_39 w.params).In s.heap → ∀ (x : Ext hb s.heap) (hav : ∀ a, Av a → ∃ o, s.heap.get? a = some o) (k : Int) (t : Tok) (Q E : Value → Shared → Prop)
  (hQ : ∀ v h' tk, Ext s.heap h' → R (At hb h' Av) v (.var k) → Q v { s with heap := h', toks := tk }),
   wpAny (model PySem.Challenge.rw_fe0177_01.prog w) A0 (call (.ref 185) [.int k t]) Q E s := by
  k_fill
  intro KX x hav k t Q E hQ
  x_run
theorem var_new {w : World} {hb : Heap} (B : Base w hb) (k : Int) (t : Tok) : RC w hb (.ref 185) [.int k t] 3 (fun _ => True) (fun v P => R P v (.var k)) :=
  fun _ _ _ f x hav _ _ _ hQ => wpAny_A0 f (var_raw (B.kx.keeps x) x hav k t _ _ hQ)
end Mine
end
theorem Mine.flush4 : True ∧ True := by
  w_top off
  try (fail_if_success walk1)
  exact ⟨trivial, trivial⟩
section
open PySem PySem.W PyProof.Rows PySem.Spec PySem.Calls PySem.W.X
set_option maxRecDepth 100000
set_option maxHeartbeats 8000000
namespace Mine
def leafTm (n low : Int) : Tm := if Int.fmod n (7 - low) < 4 - low then .var (low + Int.fmod n (7 - low)) else .int (low + Int.fmod n (7 - low) - 4)
local macro_rules | `(tactic| walk_at "call ref") => `(tactic| (refine RC.use (var_new (by assumption) _ _) (by assumption) (by assumption) (by assumption) (Fits.go (by assumption) (by omega)) trivial mono_true mono_R ?_; intro v9 h9 t9 D9 F9 N9 s9 W9 p9))
theorem leaf_new {w : World} {hb : Heap} (B : Base w hb) (n low : Int) (tn tl : Tok) (h0 : 0 ≤ low) (h5 : low ≤ 5) : RC w hb (.ref 248) [.int n tn, .int low tl] 10 (fun _ => True) (fun v P => R P v (leafTm n low)) := by
  unfold RC
  have KX := B.kx
  revert KX
  k_fill
  intro KX A s Av fit X hav _ Q E hQ
  obtain ⟨mean, mg, mb, T⟩ := B.top
  refine wpAny_call ?_
  k_dflt (refine' enter B X hav ?k6 ?k7 fit.room ?k9 ?kB ?c2 ?c3 ?c4 ?c5 ?_; (case k6 => k_is); (case k7 => k_is); (case k9 => exact BindsTo.of_eq rfl); (case c5 => decide); (case kB => exact locs rfl); (case c2 => exact rfl); (case c3 => exact rfl); (case c4 => exact rfl); k_whole)
  intro L h₁ D F N l1 W
  dsimp only
  k_fold
  k_steps
  · refine hQ _ _ _ (Wk.done (by assumption) (by assumption) (by assumption)) ?_
    have e : leafTm n low = .var (low + n.fmod (7 - low)) := by unfold leafTm; rw [if_pos (by assumption)]
    rw [e]
    exact R.mono (fun _ _ => PD.at (by assumption)) (by assumption)
  · refine hQ _ _ _ (Wk.done (by assumption) (by assumption) (by assumption)) ?_
    have e : leafTm n low = .int (low + n.fmod (7 - low) - 4) := by unfold leafTm; rw [if_neg (by assumption)]
    rw [e]
    exact R.int _ _
end Mine
end
theorem Mine.flush5 : True ∧ True := by
  w_top off
  try (fail_if_success walk1)
  exact ⟨trivial, trivial⟩
section
open PySem PySem.W PyProof.Rows PySem.Spec PySem.Calls PySem.W.X
set_option maxRecDepth 100000
set_option maxHeartbeats 8000000
namespace Mine
noncomputable def termTm : Nat → Int → Int → Tm
  | 0, n, low => leafTm (n.fdiv 5) low
  | d + 1, n, low => if n.fmod 5 = 0 then leafTm (n.fdiv 5) low else
    if n.fmod 5 = 2 then .tup3 (termTm d (n.fdiv 5) low) (termTm d (n.fdiv 35) (low + 1)) else
    if n.fmod 5 = 3 then .lst (termTm d (n.fdiv 5) low) (termTm d (n.fdiv 35) (low + 1)) else
    if n.fmod 5 = 4 then .dct (termTm d (n.fdiv 5) low) (termTm d (n.fdiv 35) (low + 1)) else
    .tup2 (termTm d (n.fdiv 5) low) (termTm d (n.fdiv 35) (low + 1))
theorem dct_of {prog : Program} {w : World} {o : Obj} {v u : Value} (h : o.IsDictOf (PySem.intKind prog w) [(0, v), (1, u)]) : ∃ t0 t1 n, o = dctObj t0 t1 v u n := by
  obtain ⟨es, ep, ⟨hc, hdict, hsl⟩, hd, hk, hp, _⟩ := h
  obtain ⟨l⟩ := es
  dsimp only at hp
  cases hp with
  | @cons e0 kv0 es0 kvs0 a0 b0 hp =>
    cases hp with
    | @cons e1 kv1 es1 kvs1 a1 b1 hp =>
      cases hp
      obtain ⟨t0, k0⟩ := Value.isInt_shape a0
      obtain ⟨t1, k1⟩ := Value.isInt_shape a1
      obtain ⟨i0, c0, d0⟩ := hk e0 (by simp)
      obtain ⟨i1, c1, d1⟩ := hk e1 (by simp)
      have z0 : i0 = 0 := (PySem.intKind prog w).inj _ _ _ c0 a0
      have z1 : i1 = 1 := (PySem.intKind prog w).inj _ _ _ c1 a1
      obtain ⟨h0, key0, val0⟩ := e0
      obtain ⟨h1, key1, val1⟩ := e1
      dsimp only at k0 k1 d0 d1 b0 b1
      subst k0 k1 b0 b1 z0 z1
      have y0 : (PySem.intKind prog w).hash 0 = 0 := by show PySem.hashInt 0 = 0; decide +kernel
      have y1 : (PySem.intKind prog w).hash 1 = 1 := by show PySem.hashInt 1 = 1; decide +kernel
      rw [y0] at d0
      rw [y1] at d1
      subst d0 d1
      obtain ⟨c, d, dt, sl⟩ := o
      dsimp only at hc hdict hsl hd
      subst hc hdict hsl hd
      exact ⟨t0, t1, ep, rfl⟩
def TermC (w : World) (hb : Heap) (d : Nat) : Prop := ∀ (n low dp : Int) (tn tl td : Tok), 0 ≤ low → low + d ≤ 5 → dp = d → RC w hb (.ref 255) [.int n tn, .int low tl, .int dp td] (12 + 3 * d) (fun _ => True) (fun v P => R P v (termTm d n low))
local macro_rules | `(tactic| walk_at "call ref") => `(tactic| (refine RC.use (leaf_new (by assumption) _ _ _ _ (by omega) (by omega)) (by assumption) (by assumption) (by assumption) (Fits.go (by assumption) (by omega)) trivial mono_true mono_R ?_; intro v9 h9 t9 D9 F9 N9 s9 W9 p9))
theorem term_zero {w : World} {hb : Heap} (B : Base w hb) : TermC w hb 0 := by
  intro n low dp tn tl td h0 h5 hdp
  unfold RC
  have KX := B.kx
  revert KX
  k_fill
  intro KX A s Av fit X hav _ Q E hQ
  obtain ⟨mean, mg, mb, T⟩ := B.top
  refine wpAny_call ?_
  k_dflt (refine' enter B X hav ?k6 ?k7 fit.room ?k9 ?kB ?c2 ?c3 ?c4 ?c5 ?_; (case k6 => k_is); (case k7 => k_is); (case k9 => exact BindsTo.of_eq rfl); (case c5 => decide); (case kB => exact locs rfl); (case c2 => exact rfl); (case c3 => exact rfl); (case c4 => exact rfl); k_whole)
  intro L h₁ D F N l1 W
  dsimp only
  k_fold
  k_steps
  · refine hQ _ _ _ (Wk.done (by assumption) (by assumption) (by assumption)) ?_
    exact R.mono (fun _ _ => PD.at (by assumption)) (by assumption)
  · refine hQ _ _ _ (Wk.done (by assumption) (by assumption) (by assumption)) ?_
    exact R.mono (fun _ _ => PD.at (by assumption)) (by assumption)
  · exfalso; omega
theorem le_ne {D : List (Addr × Obj)} {d : Addr} (l : ∀ p ∈ D, p.1 < d) : ∀ p ∈ D, p.1 ≠ d := fun p hp => Nat.ne_of_lt (l p hp)
local macro_rules | `(tactic| k_all) => `(tactic| exact le_ne (by assumption))
local macro_rules | `(tactic| walk_at "eval Dict") => `(tactic| (k_dflt (refine' kdn_int ?q ?F ?N ?b ?a ?l ?e ?n ?_; (case q => rfl); (case F => k_asm); (case N => k_asm); (case b => exact Top.nolimit (by k_asm)); (case a => rfl); (case l => rfl); (case e => exact List.cons_ne_nil _ _); (case n => exact Nat.le_of_ble_eq_true rfl)); intro d' h' o' F' N' l1 lo' hd'))
local macro_rules | `(tactic| walk_at "call ref") => `(tactic| (refine RC.use ((show TermC _ _ _ from by assumption) _ _ _ _ _ _ (by omega) (by omega) (by omega)) (by assumption) (by assumption) (by assumption) (Fits.go (by assumption) (by omega)) trivial mono_true mono_R ?_; intro v9 h9 t9 D9 F9 N9 s9 W9 p9))
theorem term_succ {w : World} {hb : Heap} (B : Base w hb) (d : Nat) (IH : TermC w hb d) : TermC w hb (d + 1) := by
  intro n low dp tn tl td h0 h5 hdp
  unfold RC
  have KX := B.kx
  revert KX
  k_fill
  intro KX A s Av fit X hav _ Q E hQ
  obtain ⟨mean, mg, mb, T⟩ := B.top
  refine wpAny_call ?_
  k_dflt (refine' enter B X hav ?k6 ?k7 fit.room ?k9 ?kB ?c2 ?c3 ?c4 ?c5 ?_; (case k6 => k_is); (case k7 => k_is); (case k9 => exact BindsTo.of_eq rfl); (case c5 => decide); (case kB => exact locs rfl); (case c2 => exact rfl); (case c3 => exact rfl); (case c4 => exact rfl); k_whole)
  intro L h₁ D F N l1 W
  dsimp only
  k_fold
  k_steps
  all_goals first
    | (exfalso; omega)
    | (refine hQ _ _ _ (Wk.done (by assumption) (by assumption) (by assumption)) ?_
       have e : termTm (d + 1) n low = leafTm (n.fdiv 5) low := by simp only [termTm]; rw [if_pos (by assumption)]
       rw [e]
       exact R.mono (fun _ _ => PD.at (by assumption)) (by assumption))
    | (refine hQ _ _ _ (Wk.done (Wk.cons (by assumption)) (by assumption) (by assumption)) ?_
       first
       | (have e : termTm (d + 1) n low = .tup3 (termTm d (n.fdiv 5) low) (termTm d (n.fdiv 35) (low + 1)) := by simp only [termTm]; rw [if_neg (by omega), if_pos (by omega)]
          rw [e]
          exact fin_tup3 (by assumption) (by assumption) (by assumption) (by assumption) (by assumption) (by assumption))
       | (have e : termTm (d + 1) n low = .lst (termTm d (n.fdiv 5) low) (termTm d (n.fdiv 35) (low + 1)) := by simp only [termTm]; rw [if_neg (by omega), if_neg (by omega), if_pos (by omega)]
          rw [e]
          exact fin_lst (by assumption) (by assumption) (by assumption) (by assumption) (by assumption) (by assumption))
       | (have e : termTm (d + 1) n low = .tup2 (termTm d (n.fdiv 5) low) (termTm d (n.fdiv 35) (low + 1)) := by simp only [termTm]; rw [if_neg (by omega), if_neg (by omega), if_neg (by omega), if_neg (by omega)]
          rw [e]
          exact fin_tup2 (by assumption) (by assumption) (by assumption) (by assumption) (by assumption) (by assumption)))
    | (dsimp only
       refine hQ _ _ _ (Wk.done (Wk.cons (by assumption)) (by assumption) (by assumption)) ?_
       have e : termTm (d + 1) n low = .dct (termTm d (n.fdiv 5) low) (termTm d (n.fdiv 35) (low + 1)) := by simp only [termTm]; rw [if_neg (by omega), if_neg (by omega), if_neg (by omega), if_pos (by omega)]
       rw [e]
       exact fin_dct (by assumption) (by assumption) (by assumption) (by assumption) (by assumption) (by assumption) (dct_of (by assumption)))
theorem term_new {w : World} {hb : Heap} (B : Base w hb) : ∀ d, TermC w hb d
  | 0 => term_zero B
  | d + 1 => term_succ B d (term_new B d)
end Mine
end
theorem Mine.flush6 : True ∧ True := by
  w_top off
  try (fail_if_success walk1)
  exact ⟨trivial, trivial⟩
section
open PySem PySem.W PyProof.Rows PySem.Spec PySem.Calls PySem.W.X
set_option maxRecDepth 100000
set_option maxHeartbeats 8000000
set_option linter.unusedVariables false
namespace Mine
theorem b_done {s : Shared} {Q : Value → Shared → Prop} {b : Bool} {tk : Nat}
    (hQ : ∀ tk, Q (.bool b) { s with toks := tk }) : Q (.bool b) ⟨s.heap, s.gens, s.drawn, tk, s.os⟩ := hQ tk
local macro_rules | `(tactic| x_close) => `(tactic| exact b_done (by assumption))
theorem isi_tup_Var {w : World} {s : Shared} : (hd.heap_39 w.params).In s.heap → ∀ (a : Addr) (c : Array Value) (n : Nat) (ho : s.heap.get? a = some { cls := .type "tuple", data := .seq c n }), ∀ (Q E : Value → Shared → Prop)
  (hQ : ∀ tk, Q (.bool false) { s with toks := tk }), wpAny (model PySem.Challenge.rw_fe0177_01.prog w) A0 (call (.builtin "isinstance") [.ref a, .ref 185]) Q E s := by
  k_fill
  intro KX a c n ho Q E hQ
  x_run
theorem isi_tup_Gen {w : World} {s : Shared} : (hd.heap_39 w.params).In s.heap → ∀ (a : Addr) (c : Array Value) (n : Nat) (ho : s.heap.get? a = some { cls := .type "tuple", data := .seq c n }), ∀ (Q E : Value → Shared → Prop)
  (hQ : ∀ tk, Q (.bool false) { s with toks := tk }), wpAny (model PySem.Challenge.rw_fe0177_01.prog w) A0 (call (.builtin "isinstance") [.ref a, .ref 38]) Q E s := by
  k_fill
  intro KX a c n ho Q E hQ
  x_run
theorem isi_tup_Tup {w : World} {s : Shared} : (hd.heap_39 w.params).In s.heap → ∀ (a : Addr) (c : Array Value) (n : Nat) (ho : s.heap.get? a = some { cls := .type "tuple", data := .seq c n }), ∀ (Q E : Value → Shared → Prop)
  (hQ : ∀ tk, Q (.bool true) { s with toks := tk }), wpAny (model PySem.Challenge.rw_fe0177_01.prog w) A0 (call (.builtin "isinstance") [.ref a, .type "tuple"]) Q E s := by
  k_fill
  intro KX a c n ho Q E hQ
  x_run
theorem isi_tup_Dct {w : World} {s : Shared} : (hd.heap_39 w.params).In s.heap → ∀ (a : Addr) (c : Array Value) (n : Nat) (ho : s.heap.get? a = some { cls := .type "tuple", data := .seq c n }), ∀ (Q E : Value → Shared → Prop)
  (hQ : ∀ tk, Q (.bool false) { s with toks := tk }), wpAny (model PySem.Challenge.rw_fe0177_01.prog w) A0 (call (.builtin "isinstance") [.ref a, .type "dict"]) Q E s := by
  k_fill
  intro KX a c n ho Q E hQ
  x_run
theorem isi_lst_Var {w : World} {s : Shared} : (hd.heap_39 w.params).In s.heap → ∀ (a : Addr) (c : Array Value) (n : Nat) (ho : s.heap.get? a = some { cls := .type "list", data := .seq c n }), ∀ (Q E : Value → Shared → Prop)
  (hQ : ∀ tk, Q (.bool false) { s with toks := tk }), wpAny (model PySem.Challenge.rw_fe0177_01.prog w) A0 (call (.builtin "isinstance") [.ref a, .ref 185]) Q E s := by
  k_fill
  intro KX a c n ho Q E hQ
  x_run
theorem isi_lst_Gen {w : World} {s : Shared} : (hd.heap_39 w.params).In s.heap → ∀ (a : Addr) (c : Array Value) (n : Nat) (ho : s.heap.get? a = some { cls := .type "list", data := .seq c n }), ∀ (Q E : Value → Shared → Prop)
  (hQ : ∀ tk, Q (.bool false) { s with toks := tk }), wpAny (model PySem.Challenge.rw_fe0177_01.prog w) A0 (call (.builtin "isinstance") [.ref a, .ref 38]) Q E s := by
  k_fill
  intro KX a c n ho Q E hQ
  x_run
theorem isi_lst_Tup {w : World} {s : Shared} : (hd.heap_39 w.params).In s.heap → ∀ (a : Addr) (c : Array Value) (n : Nat) (ho : s.heap.get? a = some { cls := .type "list", data := .seq c n }), ∀ (Q E : Value → Shared → Prop)
  (hQ : ∀ tk, Q (.bool false) { s with toks := tk }), wpAny (model PySem.Challenge.rw_fe0177_01.prog w) A0 (call (.builtin "isinstance") [.ref a, .type "tuple"]) Q E s := by
  k_fill
  intro KX a c n ho Q E hQ
  x_run
theorem isi_lst_Lst {w : World} {s : Shared} : (hd.heap_39 w.params).In s.heap → ∀ (a : Addr) (c : Array Value) (n : Nat) (ho : s.heap.get? a = some { cls := .type "list", data := .seq c n }), ∀ (Q E : Value → Shared → Prop)
  (hQ : ∀ tk, Q (.bool true) { s with toks := tk }), wpAny (model PySem.Challenge.rw_fe0177_01.prog w) A0 (call (.builtin "isinstance") [.ref a, .type "list"]) Q E s := by
  k_fill
  intro KX a c n ho Q E hQ
  x_run
theorem isi_lst_Dct {w : World} {s : Shared} : (hd.heap_39 w.params).In s.heap → ∀ (a : Addr) (c : Array Value) (n : Nat) (ho : s.heap.get? a = some { cls := .type "list", data := .seq c n }), ∀ (Q E : Value → Shared → Prop)
  (hQ : ∀ tk, Q (.bool false) { s with toks := tk }), wpAny (model PySem.Challenge.rw_fe0177_01.prog w) A0 (call (.builtin "isinstance") [.ref a, .type "dict"]) Q E s := by
  k_fill
  intro KX a c n ho Q E hQ
  x_run
theorem isi_dct_Var {w : World} {s : Shared} : (hd.heap_39 w.params).In s.heap → ∀ (a : Addr) (c : Array DictEntry) (n : Nat) (ho : s.heap.get? a = some { cls := .type "dict", data := .dict c n }), ∀ (Q E : Value → Shared → Prop)
  (hQ : ∀ tk, Q (.bool false) { s with toks := tk }), wpAny (model PySem.Challenge.rw_fe0177_01.prog w) A0 (call (.builtin "isinstance") [.ref a, .ref 185]) Q E s := by
  k_fill
  intro KX a c n ho Q E hQ
  x_run
theorem isi_dct_Gen {w : World} {s : Shared} : (hd.heap_39 w.params).In s.heap → ∀ (a : Addr) (c : Array DictEntry) (n : Nat) (ho : s.heap.get? a = some { cls := .type "dict", data := .dict c n }), ∀ (Q E : Value → Shared → Prop)
  (hQ : ∀ tk, Q (.bool false) { s with toks := tk }), wpAny (model PySem.Challenge.rw_fe0177_01.prog w) A0 (call (.builtin "isinstance") [.ref a, .ref 38]) Q E s := by
  k_fill
  intro KX a c n ho Q E hQ
  x_run
theorem isi_dct_Tup {w : World} {s : Shared} : (hd.heap_39 w.params).In s.heap → ∀ (a : Addr) (c : Array DictEntry) (n : Nat) (ho : s.heap.get? a = some { cls := .type "dict", data := .dict c n }), ∀ (Q E : Value → Shared → Prop)
  (hQ : ∀ tk, Q (.bool false) { s with toks := tk }), wpAny (model PySem.Challenge.rw_fe0177_01.prog w) A0 (call (.builtin "isinstance") [.ref a, .type "tuple"]) Q E s := by
  k_fill
  intro KX a c n ho Q E hQ
  x_run
theorem isi_dct_Lst {w : World} {s : Shared} : (hd.heap_39 w.params).In s.heap → ∀ (a : Addr) (c : Array DictEntry) (n : Nat) (ho : s.heap.get? a = some { cls := .type "dict", data := .dict c n }), ∀ (Q E : Value → Shared → Prop)
  (hQ : ∀ tk, Q (.bool false) { s with toks := tk }), wpAny (model PySem.Challenge.rw_fe0177_01.prog w) A0 (call (.builtin "isinstance") [.ref a, .type "list"]) Q E s := by
  k_fill
  intro KX a c n ho Q E hQ
  x_run
theorem isi_dct_Dct {w : World} {s : Shared} : (hd.heap_39 w.params).In s.heap → ∀ (a : Addr) (c : Array DictEntry) (n : Nat) (ho : s.heap.get? a = some { cls := .type "dict", data := .dict c n }), ∀ (Q E : Value → Shared → Prop)
  (hQ : ∀ tk, Q (.bool true) { s with toks := tk }), wpAny (model PySem.Challenge.rw_fe0177_01.prog w) A0 (call (.builtin "isinstance") [.ref a, .type "dict"]) Q E s := by
  k_fill
  intro KX a c n ho Q E hQ
  x_run
theorem isi_var_Var {w : World} {s : Shared} : (hd.heap_39 w.params).In s.heap → ∀ (a : Addr) (dx : Addr) (ho : s.heap.get? a = some { cls := .ref 185, dict := some dx }), ∀ (Q E : Value → Shared → Prop)
  (hQ : ∀ tk, Q (.bool true) { s with toks := tk }), wpAny (model PySem.Challenge.rw_fe0177_01.prog w) A0 (call (.builtin "isinstance") [.ref a, .ref 185]) Q E s := by
  k_fill
  intro KX a dx ho Q E hQ
  x_run
theorem isi_var_Gen {w : World} {s : Shared} : (hd.heap_39 w.params).In s.heap → ∀ (a : Addr) (dx : Addr) (ho : s.heap.get? a = some { cls := .ref 185, dict := some dx }), ∀ (Q E : Value → Shared → Prop)
  (hQ : ∀ tk, Q (.bool false) { s with toks := tk }), wpAny (model PySem.Challenge.rw_fe0177_01.prog w) A0 (call (.builtin "isinstance") [.ref a, .ref 38]) Q E s := by
  k_fill
  intro KX a dx ho Q E hQ
  x_run
theorem isi_gen_Gen {w : World} {s : Shared} : (hd.heap_39 w.params).In s.heap → ∀ (a : Addr) (dx : Addr) (ho : s.heap.get? a = some { cls := .ref 38, dict := some dx }), ∀ (Q E : Value → Shared → Prop)
  (hQ : ∀ tk, Q (.bool true) { s with toks := tk }), wpAny (model PySem.Challenge.rw_fe0177_01.prog w) A0 (call (.builtin "isinstance") [.ref a, .ref 38]) Q E s := by
  k_fill
  intro KX a dx ho Q E hQ
  x_run
theorem isi_int_Var {w : World} {s : Shared} : (hd.heap_39 w.params).In s.heap → ∀ (i : Int) (t : Tok), ∀ (Q E : Value → Shared → Prop)
  (hQ : ∀ tk, Q (.bool false) { s with toks := tk }), wpAny (model PySem.Challenge.rw_fe0177_01.prog w) A0 (call (.builtin "isinstance") [.int i t, .ref 185]) Q E s := by
  k_fill
  intro KX i t Q E hQ
  x_run
theorem isi_int_Gen {w : World} {s : Shared} : (hd.heap_39 w.params).In s.heap → ∀ (i : Int) (t : Tok), ∀ (Q E : Value → Shared → Prop)
  (hQ : ∀ tk, Q (.bool false) { s with toks := tk }), wpAny (model PySem.Challenge.rw_fe0177_01.prog w) A0 (call (.builtin "isinstance") [.int i t, .ref 38]) Q E s := by
  k_fill
  intro KX i t Q E hQ
  x_run
theorem isi_int_Tup {w : World} {s : Shared} : (hd.heap_39 w.params).In s.heap → ∀ (i : Int) (t : Tok), ∀ (Q E : Value → Shared → Prop)
  (hQ : ∀ tk, Q (.bool false) { s with toks := tk }), wpAny (model PySem.Challenge.rw_fe0177_01.prog w) A0 (call (.builtin "isinstance") [.int i t, .type "tuple"]) Q E s := by
  k_fill
  intro KX i t Q E hQ
  x_run
theorem isi_int_Lst {w : World} {s : Shared} : (hd.heap_39 w.params).In s.heap → ∀ (i : Int) (t : Tok), ∀ (Q E : Value → Shared → Prop)
  (hQ : ∀ tk, Q (.bool false) { s with toks := tk }), wpAny (model PySem.Challenge.rw_fe0177_01.prog w) A0 (call (.builtin "isinstance") [.int i t, .type "list"]) Q E s := by
  k_fill
  intro KX i t Q E hQ
  x_run
theorem isi_int_Dct {w : World} {s : Shared} : (hd.heap_39 w.params).In s.heap → ∀ (i : Int) (t : Tok), ∀ (Q E : Value → Shared → Prop)
  (hQ : ∀ tk, Q (.bool false) { s with toks := tk }), wpAny (model PySem.Challenge.rw_fe0177_01.prog w) A0 (call (.builtin "isinstance") [.int i t, .type "dict"]) Q E s := by
  k_fill
  intro KX i t Q E hQ
  x_run
theorem isi_sen_Gen {w : World} {s : Shared} : (hd.heap_39 w.params).In s.heap → ∀ (Q E : Value → Shared → Prop)
  (hQ : ∀ tk, Q (.bool false) { s with toks := tk }), wpAny (model PySem.Challenge.rw_fe0177_01.prog w) A0 (call (.builtin "isinstance") [.ref 198, .ref 38]) Q E s := by
  k_fill
  intro KX  Q E hQ
  x_run
end Mine
end
theorem Mine.flush7 : True ∧ True := by
  w_top off
  try (fail_if_success walk1)
  exact ⟨trivial, trivial⟩
section
open PySem PySem.W PyProof.Rows PySem.Spec PySem.Calls PySem.W.X
set_option maxRecDepth 100000
set_option maxHeartbeats 8000000
namespace Mine
/-- a substitution: of each of four variables -/
structure Sb where
  s0 : Option Tm
  s1 : Option Tm
  s2 : Option Tm
  s3 : Option Tm
inductive Sb.Has (σ : Sb) : Int → Option Tm → Prop where
  | h0 : σ.Has 0 σ.s0
  | h1 : σ.Has 1 σ.s1
  | h2 : σ.Has 2 σ.s2
  | h3 : σ.Has 3 σ.s3
/-- the full value, with its height -/
inductive Full (σ : Sb) : Nat → Tm → Tm → Prop where
  | int (n : Nat) (i : Int) : Full σ n (.int i) (.int i)
  | free {n : Nat} {k : Int} : σ.Has k none → Full σ n (.var k) (.var k)
  | var {n : Nat} {k : Int} {t u : Tm} : σ.Has k (some t) → Full σ n t u → Full σ (n + 1) (.var k) u
  | tup2 {n : Nat} {a b x y : Tm} : Full σ n a x → Full σ n b y → Full σ (n + 1) (.tup2 a b) (.tup2 x y)
  | tup3 {n : Nat} {a b x y : Tm} : Full σ n a x → Full σ n b y → Full σ (n + 1) (.tup3 a b) (.tup3 x y)
  | lst {n : Nat} {a b x y : Tm} : Full σ n a x → Full σ n b y → Full σ (n + 1) (.lst a b) (.lst x y)
  | dct {n : Nat} {a b x y : Tm} : Full σ n a x → Full σ n b y → Full σ (n + 1) (.dct a b) (.dct x y)
def VR (P : Addr → Obj → Prop) (v : Value) : Option Tm → Prop
  | none => v = .none
  | some t => R P v t
structure Vals (P : Addr → Obj → Prop) (va : Addr) (σ : Sb) (v0 v1 v2 v3 : Value) (n : Nat) : Prop where
  obj : P va (lstObj [v0, v1, v2, v3] n)
  r0 : VR P v0 σ.s0
  r1 : VR P v1 σ.s1
  r2 : VR P v2 σ.s2
  r3 : VR P v3 σ.s3
def FullC (w : World) (hb : Heap) (σ : Sb) (n : Nat) (t u : Tm) : Prop := ∀ (v : Value) (va : Addr) (v0 v1 v2 v3 : Value) (m : Nat), RC w hb (.ref 265) [v, .ref va] (10 + 10 * n) (fun P => R P v t ∧ Vals P va σ v0 v1 v2 v3 m) (fun v' P => R P v' u)
local macro_rules | `(tactic| k_mem) => `(tactic| first | exact List.Mem.head _ | assumption | (refine' List.Mem.tail _ ?_; k_mem))
theorem wpAny_A0' {α : Type} {M : Model} {A : Around} {env : Env} {t : Sem α} {Q : α → Shared → Prop} {E : Value → Shared → Prop} {s : Shared} {n : Nat} (f : Fits A (n + 1)) (h : wpAny M A0 t Q E s) : wpAny M (A.deeper env) t Q E s := wpAny_A0 f.deeper h
local macro_rules | `(tactic| walk_at "call builtin:isinstance") => `(tactic| (refine wpAny_A0 (n := 0) (Fits.go (by assumption) (by omega)) ?_; first
  | (refine isi_tup_Var (Frag.In.keeps (by assumption) (Fr.keep (by assumption))) _ _ _ (News.get (by assumption) (by k_mem)) _ _ (fun t9 => ?_))
  | (refine isi_tup_Tup (Frag.In.keeps (by assumption) (Fr.keep (by assumption))) _ _ _ (News.get (by assumption) (by k_mem)) _ _ (fun t9 => ?_))
  | (refine isi_lst_Var (Frag.In.keeps (by assumption) (Fr.keep (by assumption))) _ _ _ (News.get (by assumption) (by k_mem)) _ _ (fun t9 => ?_))
  | (refine isi_lst_Tup (Frag.In.keeps (by assumption) (Fr.keep (by assumption))) _ _ _ (News.get (by assumption) (by k_mem)) _ _ (fun t9 => ?_))
  | (refine isi_lst_Lst (Frag.In.keeps (by assumption) (Fr.keep (by assumption))) _ _ _ (News.get (by assumption) (by k_mem)) _ _ (fun t9 => ?_))
  | (refine isi_dct_Var (Frag.In.keeps (by assumption) (Fr.keep (by assumption))) _ _ _ (News.get (by assumption) (by k_mem)) _ _ (fun t9 => ?_))
  | (refine isi_dct_Tup (Frag.In.keeps (by assumption) (Fr.keep (by assumption))) _ _ _ (News.get (by assumption) (by k_mem)) _ _ (fun t9 => ?_))
  | (refine isi_dct_Lst (Frag.In.keeps (by assumption) (Fr.keep (by assumption))) _ _ _ (News.get (by assumption) (by k_mem)) _ _ (fun t9 => ?_))
  | (refine isi_dct_Dct (Frag.In.keeps (by assumption) (Fr.keep (by assumption))) _ _ _ (News.get (by assumption) (by k_mem)) _ _ (fun t9 => ?_))
  | (refine isi_var_Var (Frag.In.keeps (by assumption) (Fr.keep (by assumption))) _ _ (News.get (by assumption) (by k_mem)) _ _ (fun t9 => ?_))
  | (refine isi_int_Var (Frag.In.keeps (by assumption) (Fr.keep (by assumption))) _ _ _ _ (fun t9 => ?_))
  | (refine isi_int_Tup (Frag.In.keeps (by assumption) (Fr.keep (by assumption))) _ _ _ _ (fun t9 => ?_))
  | (refine isi_int_Lst (Frag.In.keeps (by assumption) (Fr.keep (by assumption))) _ _ _ _ (fun t9 => ?_))
  | (refine isi_int_Dct (Frag.In.keeps (by assumption) (Fr.keep (by assumption))) _ _ _ _ (fun t9 => ?_))))
theorem mono_full {v : Value} {t : Tm} {va : Addr} {σ : Sb} {v0 v1 v2 v3 : Value} {n : Nat} : ∀ P P' : Addr → Obj → Prop, (∀ a o, P a o → P' a o) → (R P v t ∧ Vals P va σ v0 v1 v2 v3 n) → (R P' v t ∧ Vals P' va σ v0 v1 v2 v3 n) := by
  intro P P' h r
  have y : ∀ (u : Value) (o : Option Tm), VR P u o → VR P' u o := fun u o z => by cases o with | none => exact z | some t => exact R.mono h z
  exact ⟨r.1.mono h, h _ _ r.2.obj, y _ _ r.2.r0, y _ _ r.2.r1, y _ _ r.2.r2, y _ _ r.2.r3⟩
local macro_rules | `(tactic| walk_at "eval ListComp") => `(tactic| (k_dflt (refine ListComp_T (by assumption) (Fits.handled (Fits.go (by assumption) (Nat.le_refl _))) (by with_unfolding_all rfl) (by decide) (by rfl) (by decide) (by rfl) ?_)))
local macro_rules | `(tactic| walk_at "CompT") => `(tactic| (k_dflt (refine CompT.intro (by assumption) (by assumption) (by k_mem) (Nat.le_of_ble_eq_true rfl) ?_); intro g9; lcg_lit))
theorem wk_two {hb h₀ h : Heap} {Av : Addr → Prop} {L : Addr} {D : List (Addr × Obj)} {q r : Addr × Obj} (W : Wk hb h₀ Av L D) (_ : News hb L h (q :: r :: D)) : Wk hb h₀ Av L (q :: r :: D) := W.cons.cons
theorem src_two {hb h : Heap} {L : Addr} {D : List (Addr × Obj)} {q r e : Addr × Obj} (_ : News hb L h (q :: r :: D)) (hm : e ∈ D) : e ∈ q :: r :: D := .tail _ (.tail _ hm)
structure Arg (w : World) (hb : Heap) (σ : Sb) (n : Nat) (P : Addr → Obj → Prop) (v : Value) (t u : Tm) : Prop where
  c : FullC w hb σ n t u
  r : R P v t
theorem Arg.rc {w : World} {hb : Heap} {σ : Sb} {n : Nat} {P : Addr → Obj → Prop} {v : Value} {t u : Tm} (a : Arg w hb σ n P v t u) {va : Addr} {v0 v1 v2 v3 : Value} {m : Nat} : RC w hb (.ref 265) [v, .ref va] (10 + 10 * n) (fun P => R P v t ∧ Vals P va σ v0 v1 v2 v3 m) (fun v' P => R P v' u) := a.c _ _ _ _ _ _ _
theorem Arg.pre {w : World} {hb h₀ : Heap} {σ : Sb} {n : Nat} {Av : Addr → Prop} {v : Value} {t u : Tm} {L : Addr} {D : List (Addr × Obj)} {va : Addr} {v0 v1 v2 v3 : Value} {m : Nat} (a : Arg w hb σ n (At hb h₀ Av) v t u) (W : Wk hb h₀ Av L D) (hv : Vals (At hb h₀ Av) va σ v0 v1 v2 v3 m) :
    R (PD D Av) v t ∧ Vals (PD D Av) va σ v0 v1 v2 v3 m := mono_full _ _ (fun _ _ => W.pd) ⟨a.r, hv⟩
local macro_rules | `(tactic| walk_at "CompRest") => `(tactic| (with_unfolding_all first
  | (refine LCg.CompRest.succ ?_; intro v' I' oI' C' oC' D' m' h' tk' E' hv' hC' hx' F' N' off' ne'; lcg_open hv')
  | refine LCg.CompRest.zero ?_))
local macro_rules | `(tactic| walk_at "call ref") => `(tactic| (refine RC.useX (Arg.rc (σ := _) (n := _) (by assumption)) [_, _, _] (by assumption) (by assumption) (of_off3 (by assumption)) (by assumption) (Fits.go (by assumption) (by omega)) (Arg.pre (by assumption) (by assumption) (by assumption)) mono_full mono_R ?_; intro v9 h9 t9 D9 F9 N9 o9 s9 W9 p9))
theorem fin_tup2' {hb h₀ h' : Heap} {Av : Addr → Prop} {L a : Addr} {D₁ D₂ : List (Addr × Obj)} {q : Addr × Obj} {v u : Value} {n : Nat} {t₁ t₂ : Tm} (N : News hb L h' ((a, tupObj [v, u] n) :: q :: D₂)) (W : Wk hb h₀ Av L D₂) (l : q.1 < a ∧ AllLt a D₂) (p1 : R (PD D₁ Av) v t₁) (s : ∀ p ∈ D₁, p ∈ D₂) (p2 : R (PD D₂ Av) u t₂) : R (At hb h' Av) (.ref a) (.tup2 t₁ t₂) :=
  .tup2 (PD.at N (W.new (.head _) N (tb_ltOf l.2))) (p1.mono fun _ _ y => PD.at N (PD.sub (fun p hp => .tail _ (.tail _ (s p hp))) y)) (p2.mono fun _ _ y => PD.at N (PD.sub (fun _ hp => .tail _ (.tail _ hp)) y))
structure Held (q : Addr × Obj) (D : List (Addr × Obj)) : Prop where
  mem : q ∈ D
theorem Held.sub {q : Addr × Obj} {D D' : List (Addr × Obj)} (h : Held q D) (s : ∀ p ∈ D, p ∈ D') : Held q D' := ⟨s _ h.mem⟩
theorem Held.up {q r : Addr × Obj} {D : List (Addr × Obj)} (h : Held q D) : q ∈ r :: D := .tail _ h.mem
local macro_rules | `(tactic| k_mem) => `(tactic| first | exact List.Mem.head _ | assumption | exact Held.mem (by assumption) | (refine' List.Mem.tail _ ?_; k_mem))
local macro_rules | `(tactic| walk_at "CompEnd") => `(tactic| (refine compEnd_T (by assumption) (by assumption) (by assumption) (by assumption) (by assumption) ?_; intro S9; (have H9 := Held.sub (by assumption) (by assumption)); walk_say "HELD"))
theorem full_tup2 {w : World} {hb : Heap} (B : Base w hb) {σ : Sb} {n : Nat} {a b x y : Tm} (I1 : FullC w hb σ n a x) (I2 : FullC w hb σ n b y) : FullC w hb σ (n + 1) (.tup2 a b) (.tup2 x y) := by
  intro v va v0 v1 v2 v3 m
  unfold RC
  have KX := B.kx
  revert KX
  k_fill
  intro KX A s Av fit X hav hp Q E hQ
  obtain ⟨hr, hv⟩ := hp
  cases hr with
  | @tup2 ax e1 e2 k _ _ ho ra rb =>
  have c1 : Arg w hb σ n (At hb s.heap Av) _ _ _ := ⟨I1, ra⟩
  have c2 : Arg w hb σ n (At hb s.heap Av) _ _ _ := ⟨I2, rb⟩
  obtain ⟨mean, mg, mb, T⟩ := B.top
  refine wpAny_call ?_
  k_dflt (refine' enterC (binds := [(Str.ofString "term", .ref ax), (Str.ofString "values", .ref va)]) B X hav ?k6 ?k7 fit.room ?k9 ?kB ?kD ?c2 ?c3 ?c4 ?_; (case k6 => k_is); (case k7 => k_is); (case k9 => exact BindsTo.of_eq rfl); (case kB => exact rfl); (case kD => decide +kernel); (case c2 => exact rfl); (case c3 => exact rfl); (case c4 => exact rfl); k_whole)
  intro L h₁ tk D cells F₀ N Y l1 W
  dsimp only
  k_fold
  obtain ⟨o1, o2, hE, d1₀, d2₀⟩ := CellsAre.two Y
  subst hE
  have F : Fr hb L h₁ (fun _ => none) := F₀
  have d1 : o1.data = .cell (some (.ref va)) := d1₀
  have d2 : o2.data = .cell (some (.ref ax)) := d2₀
  clear F₀ d1₀ d2₀ Y
  simp only [List.cons_append, List.nil_append] at N
  have HC : Held (L + 1 + 1, o1) ((L + 1 + 1, o1) :: (L + 1, o2) :: D) := ⟨.head _⟩
  have ho' := (W.pd ho).1
  have hv' := (W.pd hv.obj).1
  have W2 := wk_two W N
  have S2 : SrcT ax [e1, e2].toArray _ := ⟨_, src_two N ho', rfl, _, rfl⟩
  k_steps
  refine hQ _ _ _ (Wk.done (Wk.cons (Wk.cons (by assumption))) (by assumption) (by assumption)) ?_
  exact fin_tup2' (by assumption) (by assumption) (by assumption) (by assumption) (by assumption) (by assumption)
end Mine
end
theorem Mine.flush8 : True ∧ True := by
  w_top off
  try (fail_if_success walk1)
  exact ⟨trivial, trivial⟩
section
open PySem PySem.W PyProof.Rows PySem.Spec PySem.Calls PySem.W.X
set_option maxRecDepth 100000
set_option maxHeartbeats 400000
namespace Mine
local macro_rules | `(tactic| k_mem) => `(tactic| first | exact List.Mem.head _ | assumption | exact Held.mem (by assumption) | (refine' List.Mem.tail _ ?_; k_mem))
local macro_rules | `(tactic| walk_at "call builtin:isinstance") => `(tactic| (refine wpAny_A0 (n := 0) (Fits.go (by assumption) (by omega)) ?_; first
  | (refine isi_tup_Var (Frag.In.keeps (by assumption) (Fr.keep (by assumption))) _ _ _ (News.get (by assumption) (by k_mem)) _ _ (fun t9 => ?_))
  | (refine isi_tup_Tup (Frag.In.keeps (by assumption) (Fr.keep (by assumption))) _ _ _ (News.get (by assumption) (by k_mem)) _ _ (fun t9 => ?_))
  | (refine isi_lst_Var (Frag.In.keeps (by assumption) (Fr.keep (by assumption))) _ _ _ (News.get (by assumption) (by k_mem)) _ _ (fun t9 => ?_))
  | (refine isi_lst_Tup (Frag.In.keeps (by assumption) (Fr.keep (by assumption))) _ _ _ (News.get (by assumption) (by k_mem)) _ _ (fun t9 => ?_))
  | (refine isi_lst_Lst (Frag.In.keeps (by assumption) (Fr.keep (by assumption))) _ _ _ (News.get (by assumption) (by k_mem)) _ _ (fun t9 => ?_))
  | (refine isi_dct_Var (Frag.In.keeps (by assumption) (Fr.keep (by assumption))) _ _ _ (News.get (by assumption) (by k_mem)) _ _ (fun t9 => ?_))
  | (refine isi_dct_Tup (Frag.In.keeps (by assumption) (Fr.keep (by assumption))) _ _ _ (News.get (by assumption) (by k_mem)) _ _ (fun t9 => ?_))
  | (refine isi_dct_Lst (Frag.In.keeps (by assumption) (Fr.keep (by assumption))) _ _ _ (News.get (by assumption) (by k_mem)) _ _ (fun t9 => ?_))
  | (refine isi_dct_Dct (Frag.In.keeps (by assumption) (Fr.keep (by assumption))) _ _ _ (News.get (by assumption) (by k_mem)) _ _ (fun t9 => ?_))
  | (refine isi_var_Var (Frag.In.keeps (by assumption) (Fr.keep (by assumption))) _ _ (News.get (by assumption) (by k_mem)) _ _ (fun t9 => ?_))
  | (refine isi_int_Var (Frag.In.keeps (by assumption) (Fr.keep (by assumption))) _ _ _ _ (fun t9 => ?_))
  | (refine isi_int_Tup (Frag.In.keeps (by assumption) (Fr.keep (by assumption))) _ _ _ _ (fun t9 => ?_))
  | (refine isi_int_Lst (Frag.In.keeps (by assumption) (Fr.keep (by assumption))) _ _ _ _ (fun t9 => ?_))
  | (refine isi_int_Dct (Frag.In.keeps (by assumption) (Fr.keep (by assumption))) _ _ _ _ (fun t9 => ?_))))
theorem full_int {w : World} {hb : Heap} (B : Base w hb) {σ : Sb} {n : Nat} {i : Int} : FullC w hb σ n (.int i) (.int i) := by
  intro v va v0 v1 v2 v3 m
  unfold RC
  have KX := B.kx
  revert KX
  k_fill
  intro KX A s Av fit X hav hp Q E hQ
  obtain ⟨hr, hv⟩ := hp
  cases hr with
  | @int _ tk0 =>
  obtain ⟨mean, mg, mb, T⟩ := B.top
  refine wpAny_call ?_
  k_dflt (refine' enterC (binds := [(Str.ofString "term", .int i tk0), (Str.ofString "values", .ref va)]) B X hav ?k6 ?k7 fit.room ?k9 ?kB ?kD ?c2 ?c3 ?c4 ?_; (case k6 => k_is); (case k7 => k_is); (case k9 => exact BindsTo.of_eq rfl); (case kB => exact rfl); (case kD => decide +kernel); (case c2 => exact rfl); (case c3 => exact rfl); (case c4 => exact rfl); k_whole)
  intro L h₁ tk D cells F₀ N Y l1 W
  dsimp only
  k_fold
  obtain ⟨o1, o2, hE, d1₀, d2₀⟩ := CellsAre.two Y
  subst hE
  have F : Fr hb L h₁ (fun _ => none) := F₀
  have d1 : o1.data = .cell (some (.ref va)) := d1₀
  have d2 : o2.data = .cell (some (.int i tk0)) := d2₀
  clear F₀ d1₀ d2₀ Y
  simp only [List.cons_append, List.nil_append] at N
  k_steps
  refine hQ _ _ _ (Wk.done (wk_two (by assumption) (by assumption)) (by assumption) (by assumption)) (R.int _ _)
local macro_rules | `(tactic| walk_at "eval ListComp") => `(tactic| (first
  | (k_dflt (refine ListComp_T (by assumption) (Fits.handled (Fits.go (by assumption) (Nat.le_refl _))) (by with_unfolding_all rfl) (by decide) (by rfl) (by decide) (by rfl) ?_))))
local macro_rules | `(tactic| walk_at "CompT") => `(tactic| (k_dflt (refine CompT.intro (by assumption) (by assumption) (by k_mem) (Nat.le_of_ble_eq_true rfl) ?_); intro g9; lcg_lit))
local macro_rules | `(tactic| walk_at "CompRest") => `(tactic| (with_unfolding_all first
  | (refine LCg.CompRest.succ ?_; intro v' I' oI' C' oC' D' m' h' tk' E' hv' hC' hx' F' N' off' ne'; lcg_open hv')
  | refine LCg.CompRest.zero ?_))
local macro_rules | `(tactic| walk_at "call ref") => `(tactic| (refine RC.useX (Arg.rc (σ := _) (n := _) (by assumption)) [_, _, _] (by assumption) (by assumption) (of_off3 (by assumption)) (by assumption) (Fits.go (by assumption) (by omega)) (Arg.pre (by assumption) (by assumption) (by assumption)) mono_full mono_R ?_; intro v9 h9 t9 D9 F9 N9 o9 s9 W9 p9))
local macro_rules | `(tactic| walk_at "CompEnd") => `(tactic| (refine compEnd_T (by assumption) (by assumption) (by assumption) (by assumption) (by assumption) ?_; intro S9; (have H9 := Held.sub (by assumption) (by assumption)); walk_say "HELD"))
theorem fin_tup3' {hb h₀ h' : Heap} {Av : Addr → Prop} {L a : Addr} {D₁ D₂ D₃ : List (Addr × Obj)} {q : Addr × Obj} {v m u : Value} {n : Nat} {t₁ t₂ : Tm} (N : News hb L h' ((a, tupObj [v, m, u] n) :: q :: D₃)) (W : Wk hb h₀ Av L D₃) (l : q.1 < a ∧ AllLt a D₃) (p2 : R (PD D₃ Av) u t₂) (pm : R (PD D₂ Av) m (.int 0)) (s : ∀ p ∈ D₂, p ∈ D₃) (p1 : R (PD D₁ Av) v t₁) (s1 : ∀ p ∈ D₁, p ∈ D₂) : R (At hb h' Av) (.ref a) (.tup3 t₁ t₂) := by
  cases pm
  exact .tup3 (PD.at N (W.new (.head _) N (tb_ltOf l.2))) (p1.mono fun _ _ y => PD.at N (PD.sub (fun p hp => .tail _ (.tail _ (s p (s1 p hp)))) y)) (p2.mono fun _ _ y => PD.at N (PD.sub (fun _ hp => .tail _ (.tail _ hp)) y))
theorem full_tup3 {w : World} {hb : Heap} (B : Base w hb) {σ : Sb} {n : Nat} {a b x y : Tm} (I1 : FullC w hb σ n a x) (I2 : FullC w hb σ n b y) : FullC w hb σ (n + 1) (.tup3 a b) (.tup3 x y) := by
  intro v va v0 v1 v2 v3 m
  unfold RC
  have KX := B.kx
  revert KX
  k_fill
  intro KX A s Av fit X hav hp Q E hQ
  obtain ⟨hr, hv⟩ := hp
  cases hr with
  | @tup3 ax e1 e2 z k _ _ ho ra rb =>
  have c1 : Arg w hb σ n (At hb s.heap Av) _ _ _ := ⟨I1, ra⟩
  have c2 : Arg w hb σ n (At hb s.heap Av) _ _ _ := ⟨I2, rb⟩
  have c3 : Arg w hb σ n (At hb s.heap Av) (.int 0 z) _ _ := ⟨full_int B, R.int 0 z⟩
  obtain ⟨mean, mg, mb, T⟩ := B.top
  refine wpAny_call ?_
  k_dflt (refine' enterC (binds := [(Str.ofString "term", .ref ax), (Str.ofString "values", .ref va)]) B X hav ?k6 ?k7 fit.room ?k9 ?kB ?kD ?c2 ?c3 ?c4 ?_; (case k6 => k_is); (case k7 => k_is); (case k9 => exact BindsTo.of_eq rfl); (case kB => exact rfl); (case kD => decide +kernel); (case c2 => exact rfl); (case c3 => exact rfl); (case c4 => exact rfl); k_whole)
  intro L h₁ tk D cells F₀ N Y l1 W
  dsimp only
  k_fold
  obtain ⟨o1, o2, hE, d1₀, d2₀⟩ := CellsAre.two Y
  subst hE
  have F : Fr hb L h₁ (fun _ => none) := F₀
  have d1 : o1.data = .cell (some (.ref va)) := d1₀
  have d2 : o2.data = .cell (some (.ref ax)) := d2₀
  clear F₀ d1₀ d2₀ Y
  simp only [List.cons_append, List.nil_append] at N
  have HC : Held (L + 1 + 1, o1) ((L + 1 + 1, o1) :: (L + 1, o2) :: D) := ⟨.head _⟩
  have ho' := (W.pd ho).1
  have hv' := (W.pd hv.obj).1
  have W2 := wk_two W N
  have S2 : SrcT ax [e1, .int 0 z, e2].toArray _ := ⟨_, src_two N ho', rfl, _, rfl⟩
  k_steps
  refine hQ _ _ _ (Wk.done (Wk.cons (Wk.cons (by assumption))) (by assumption) (by assumption)) ?_
  exact fin_tup3' (by assumption) (by assumption) (by assumption) (by assumption) (by assumption) (by assumption) (by assumption) (by assumption)
local macro_rules | `(tactic| walk_at "eval ListComp") => `(tactic| (k_dflt (refine LCg.ListComp_U (by assumption) (by with_unfolding_all rfl) (by decide) (by rfl) (by decide) (by rfl) ?_)))
local macro_rules | `(tactic| walk_at "CompSrc") => `(tactic| (k_dflt (refine LCg.CompSrc.ledger (Fits.handled (Fits.go (by assumption) (Nat.le_refl _))) (by assumption) (by assumption) (by k_mem) (Nat.le_of_ble_eq_true rfl) ?_); intro g9; lcg_lit))
theorem srcAt_sub {hb : Heap} {ax : Addr} {its : Array Value} {D D' : List (Addr × Obj)} (s : ∀ p ∈ D, p ∈ D') (h : LCg.SrcAt hb ax its D) : LCg.SrcAt hb ax its D' := h.elim .inl fun ⟨o, hm, e⟩ => .inr ⟨o, s _ hm, e⟩
theorem compEnd_L {hb : Heap} {m : Str → Option Value} {L I C Dd ax : Addr} {its : Array Value} {s₁ : Shared} {oI oC oD : Obj} {rest : Value → List (Addr × Obj) → Prop} {y : Value} {h' : Heap} {tk : Nat} {D D' : List (Addr × Obj)} (F : Fr hb L h' m) (N : News hb L h' ([(I, oI), (C, oC), (Dd, oD)] ++ D'))
    (off : ∀ p ∈ D', p.1 ∉ [(I, oI), (C, oC), (Dd, oD)].map (·.1)) (sub : ∀ p ∈ D, p ∈ D') (S : LCg.SrcAt hb ax its D) (r : LCg.SrcAt hb ax its D' → rest y D') : LCg.CompEnd hb L m s₁ I oI C oC Dd oD (LCg.SrcAt hb ax its) rest y { s₁ with heap := h', toks := tk } :=
  ⟨h', tk, D', rfl, F, N, off3_of off, srcAt_sub sub S, r (srcAt_sub sub S)⟩
local macro_rules | `(tactic| walk_at "CompEnd") => `(tactic| (refine compEnd_L (by assumption) (by assumption) (by assumption) (by assumption) (by assumption) ?_; intro S9; (have H9 := Held.sub (by assumption) (by assumption)); walk_say "HELD"))
theorem off1_mem {a : Addr} : ∀ {D : List (Addr × Obj)}, LCg.Off1 a D → ∀ p ∈ D, p.1 ≠ a
  | [], _, _, h => nomatch h
  | _ :: _, h, p, hp => by
    rcases List.mem_cons.mp hp with rfl | hp
    · exact h.1
    · exact off1_mem h.2 p hp
theorem Wk.newOff {hb h₀ h : Heap} {Av : Addr → Prop} {L : Addr} {D D' : List (Addr × Obj)} (W : Wk hb h₀ Av L D) {a : Addr} {o : Obj} (hm : (a, o) ∈ D') (N : News hb L h D') (hl : ∀ p ∈ D, p.1 ≠ a) : PD D' Av a o := by
  refine ⟨hm, fun z => ?_⟩
  obtain ⟨o', e⟩ := W.av a z
  exact hl (a, o') (W.all _ (allX_mem.mpr ⟨(N _ hm).2.2, e, List.not_mem_nil⟩)) rfl
theorem fin_lst' {hb h₀ h' : Heap} {Av : Addr → Prop} {L a : Addr} {D₁ D₂ : List (Addr × Obj)} {v u : Value} {n : Nat} {t₁ t₂ : Tm} (N : News hb L h' ((a, lstObj [v, u] n) :: D₂)) (W : Wk hb h₀ Av L D₂) (l : LCg.Off1 a D₂) (p2 : R (PD D₂ Av) u t₂) (p1 : R (PD D₁ Av) v t₁) (s : ∀ p ∈ D₁, p ∈ D₂) : R (At hb h' Av) (.ref a) (.lst t₁ t₂) :=
  .lst (PD.at N (W.newOff (.head _) N (off1_mem l))) (p1.mono fun _ _ y => PD.at N (PD.sub (fun p hp => .tail _ (s p hp)) y)) (p2.mono fun _ _ y => PD.at N (PD.sub (fun _ hp => .tail _ hp) y))
theorem full_lst {w : World} {hb : Heap} (B : Base w hb) {σ : Sb} {n : Nat} {a b x y : Tm} (I1 : FullC w hb σ n a x) (I2 : FullC w hb σ n b y) : FullC w hb σ (n + 1) (.lst a b) (.lst x y) := by
  intro v va v0 v1 v2 v3 m
  unfold RC
  have KX := B.kx
  revert KX
  k_fill
  intro KX A s Av fit X hav hp Q E hQ
  obtain ⟨hr, hv⟩ := hp
  cases hr with
  | @lst ax e1 e2 k _ _ ho ra rb =>
  have c1 : Arg w hb σ n (At hb s.heap Av) _ _ _ := ⟨I1, ra⟩
  have c2 : Arg w hb σ n (At hb s.heap Av) _ _ _ := ⟨I2, rb⟩
  obtain ⟨mean, mg, mb, T⟩ := B.top
  refine wpAny_call ?_
  k_dflt (refine' enterC (binds := [(Str.ofString "term", .ref ax), (Str.ofString "values", .ref va)]) B X hav ?k6 ?k7 fit.room ?k9 ?kB ?kD ?c2 ?c3 ?c4 ?_; (case k6 => k_is); (case k7 => k_is); (case k9 => exact BindsTo.of_eq rfl); (case kB => exact rfl); (case kD => decide +kernel); (case c2 => exact rfl); (case c3 => exact rfl); (case c4 => exact rfl); k_whole)
  intro L h₁ tk D cells F₀ N Y l1 W
  dsimp only
  k_fold
  obtain ⟨o1, o2, hE, d1₀, d2₀⟩ := CellsAre.two Y
  subst hE
  have F : Fr hb L h₁ (fun _ => none) := F₀
  have d1 : o1.data = .cell (some (.ref va)) := d1₀
  have d2 : o2.data = .cell (some (.ref ax)) := d2₀
  clear F₀ d1₀ d2₀ Y
  simp only [List.cons_append, List.nil_append] at N
  have HC : Held (L + 1 + 1, o1) ((L + 1 + 1, o1) :: (L + 1, o2) :: D) := ⟨.head _⟩
  have ho' := (W.pd ho).1
  have hv' := (W.pd hv.obj).1
  have W2 := wk_two W N
  have S2 : LCg.SrcAt hb ax [e1, e2].toArray _ := .inr ⟨_, src_two N ho', rfl, _, rfl⟩
  k_steps
  refine hQ _ _ _ (Wk.done (Wk.cons (by assumption)) (by assumption) (by assumption)) ?_
  rename_i N0 o0
  exact fin_lst' N0 (by assumption) o0 (by assumption) (by assumption) (by assumption)
end Mine
end
theorem Mine.flush9 : True ∧ True := by
  w_top off
  try (fail_if_success walk1)
  exact ⟨trivial, trivial⟩
section
open PySem PySem.W PyProof.Rows PySem.Spec PySem.Calls PySem.W.X
set_option maxRecDepth 100000
set_option maxHeartbeats 400000
namespace Mine
local macro_rules | `(tactic| k_mem) => `(tactic| first | exact List.Mem.head _ | assumption | exact Held.mem (by assumption) | (refine' List.Mem.tail _ ?_; k_mem))
local macro_rules | `(tactic| walk_at "call builtin:isinstance") => `(tactic| (refine wpAny_A0 (n := 0) (Fits.go (by assumption) (by omega)) ?_; first
  | (refine isi_tup_Var (Frag.In.keeps (by assumption) (Fr.keep (by assumption))) _ _ _ (News.get (by assumption) (by k_mem)) _ _ (fun t9 => ?_))
  | (refine isi_tup_Tup (Frag.In.keeps (by assumption) (Fr.keep (by assumption))) _ _ _ (News.get (by assumption) (by k_mem)) _ _ (fun t9 => ?_))
  | (refine isi_lst_Var (Frag.In.keeps (by assumption) (Fr.keep (by assumption))) _ _ _ (News.get (by assumption) (by k_mem)) _ _ (fun t9 => ?_))
  | (refine isi_lst_Tup (Frag.In.keeps (by assumption) (Fr.keep (by assumption))) _ _ _ (News.get (by assumption) (by k_mem)) _ _ (fun t9 => ?_))
  | (refine isi_lst_Lst (Frag.In.keeps (by assumption) (Fr.keep (by assumption))) _ _ _ (News.get (by assumption) (by k_mem)) _ _ (fun t9 => ?_))
  | (refine isi_dct_Var (Frag.In.keeps (by assumption) (Fr.keep (by assumption))) _ _ _ (News.get (by assumption) (by k_mem)) _ _ (fun t9 => ?_))
  | (refine isi_dct_Tup (Frag.In.keeps (by assumption) (Fr.keep (by assumption))) _ _ _ (News.get (by assumption) (by k_mem)) _ _ (fun t9 => ?_))
  | (refine isi_dct_Lst (Frag.In.keeps (by assumption) (Fr.keep (by assumption))) _ _ _ (News.get (by assumption) (by k_mem)) _ _ (fun t9 => ?_))
  | (refine isi_dct_Dct (Frag.In.keeps (by assumption) (Fr.keep (by assumption))) _ _ _ (News.get (by assumption) (by k_mem)) _ _ (fun t9 => ?_))
  | (refine isi_var_Var (Frag.In.keeps (by assumption) (Fr.keep (by assumption))) _ _ (News.get (by assumption) (by k_mem)) _ _ (fun t9 => ?_))
  | (refine isi_int_Var (Frag.In.keeps (by assumption) (Fr.keep (by assumption))) _ _ _ _ (fun t9 => ?_))
  | (refine isi_int_Tup (Frag.In.keeps (by assumption) (Fr.keep (by assumption))) _ _ _ _ (fun t9 => ?_))
  | (refine isi_int_Lst (Frag.In.keeps (by assumption) (Fr.keep (by assumption))) _ _ _ _ (fun t9 => ?_))
  | (refine isi_int_Dct (Frag.In.keeps (by assumption) (Fr.keep (by assumption))) _ _ _ _ (fun t9 => ?_))))
structure Has4 (P : Addr → Obj → Prop) (vs : List Value) (k : Int) (o : Option Tm) (x : Value) : Prop where
  lo : 0 ≤ k
  hi : k < 2 ^ 63
  hx : vs.toArray[k.toNat]? = some x
  r : VR P x o
theorem has4 {P : Addr → Obj → Prop} {σ : Sb} {va : Addr} {v0 v1 v2 v3 : Value} {m : Nat} {k : Int} {o : Option Tm} (hv : Vals P va σ v0 v1 v2 v3 m) (h : σ.Has k o) : ∃ x, Has4 P [v0, v1, v2, v3] k o x := by
  cases h
  · exact ⟨v0, by decide, by decide, rfl, hv.r0⟩
  · exact ⟨v1, by decide, by decide, rfl, hv.r1⟩
  · exact ⟨v2, by decide, by decide, rfl, hv.r2⟩
  · exact ⟨v3, by decide, by decide, rfl, hv.r3⟩
local macro_rules | `(tactic| walk_at "subscriptTail") => `(tactic| (k_dflt (refine item_list (News.isList (by assumption) (by k_mem)) (Has4.lo (by assumption)) (Has4.hi (by assumption)) (Has4.hx (by assumption)) ?_)))
theorem full_free {w : World} {hb : Heap} (B : Base w hb) {σ : Sb} {n : Nat} {k : Int} (hk : σ.Has k none) : FullC w hb σ n (.var k) (.var k) := by
  intro v va v0 v1 v2 v3 m
  unfold RC
  have KX := B.kx
  revert KX
  k_fill
  intro KX A s Av fit X hav hp Q E hQ
  obtain ⟨hr, hv⟩ := hp
  have hr₀ := hr
  cases hr with
  | @var ax dx hs t0 _ tk0 ep hx hd =>
  obtain ⟨mean, mg, mb, T⟩ := B.top
  obtain ⟨x, h4⟩ := has4 hv hk
  obtain rfl : x = .none := h4.r
  refine wpAny_call ?_
  k_dflt (refine' enterC (binds := [(Str.ofString "term", .ref ax), (Str.ofString "values", .ref va)]) B X hav ?k6 ?k7 fit.room ?k9 ?kB ?kD ?c2 ?c3 ?c4 ?_; (case k6 => k_is); (case k7 => k_is); (case k9 => exact BindsTo.of_eq rfl); (case kB => exact rfl); (case kD => decide +kernel); (case c2 => exact rfl); (case c3 => exact rfl); (case c4 => exact rfl); k_whole)
  intro L h₁ tk D cells F₀ N Y l1 W
  dsimp only
  k_fold
  obtain ⟨o1, o2, hE, d1₀, d2₀⟩ := CellsAre.two Y
  subst hE
  have F : Fr hb L h₁ (fun _ => none) := F₀
  have d1 : o1.data = .cell (some (.ref va)) := d1₀
  have d2 : o2.data = .cell (some (.ref ax)) := d2₀
  clear F₀ d1₀ d2₀ Y
  simp only [List.cons_append, List.nil_append] at N
  have hx' := (W.pd hx).1
  have hd' := (W.pd hd).1
  have hv' := (W.pd hv.obj).1
  have W2 := wk_two W N
  k_steps
  dsimp only
  refine hQ _ _ _ (Wk.done (by assumption) (by assumption) (by assumption)) ?_
  exact R.mono (fun _ _ => PD.at (by assumption)) (hr₀.mono (P' := PD _ _) (fun _ _ y => PD.sub (by intro p hp; exact .tail _ (.tail _ hp)) (W.pd y)))
theorem ref_or {P : Addr → Obj → Prop} {v : Value} {t : Tm} (h : R P v t) : (∃ i tk, v = .int i tk) ∨ ∃ a, v = .ref a := by
  cases h with
  | int i tk => exact .inl ⟨i, tk, rfl⟩
  | var => exact .inr ⟨_, rfl⟩
  | tup2 => exact .inr ⟨_, rfl⟩
  | tup3 => exact .inr ⟨_, rfl⟩
  | lst => exact .inr ⟨_, rfl⟩
  | dct => exact .inr ⟨_, rfl⟩
theorem Arg.pre2 {w : World} {hb h₀ h : Heap} {σ : Sb} {n : Nat} {Av : Addr → Prop} {v : Value} {t u : Tm} {L : Addr} {D : List (Addr × Obj)} {va : Addr} {v0 v1 v2 v3 : Value} {m : Nat} (W : Wk hb h₀ Av L D) (_ : News hb L h D) (a : Arg w hb σ n (At hb h₀ Av) v t u) (hv : Vals (At hb h₀ Av) va σ v0 v1 v2 v3 m) :
    R (PD D Av) v t ∧ Vals (PD D Av) va σ v0 v1 v2 v3 m := mono_full _ _ (fun _ _ => W.pd) ⟨a.r, hv⟩
local macro_rules | `(tactic| walk_at "call ref") => `(tactic| (refine RC.use (Arg.rc (σ := _) (n := _) (by assumption)) (by assumption) (by assumption) (by assumption) (Fits.go (by assumption) (by omega)) (Arg.pre2 (by assumption) (by assumption) (by assumption) (by assumption)) mono_full mono_R ?_; intro v9 h9 t9 D9 F9 N9 s9 W9 p9))
theorem full_bound {w : World} {hb : Heap} (B : Base w hb) {σ : Sb} {n : Nat} {k : Int} {t u : Tm} (hk : σ.Has k (some t)) (I : FullC w hb σ n t u) : FullC w hb σ (n + 1) (.var k) u := by
  intro v va v0 v1 v2 v3 m
  unfold RC
  have KX := B.kx
  revert KX
  k_fill
  intro KX A s Av fit X hav hp Q E hQ
  obtain ⟨hr, hv⟩ := hp
  cases hr with
  | @var ax dx hs t0 _ tk0 ep hx hd =>
  obtain ⟨mean, mg, mb, T⟩ := B.top
  obtain ⟨x, h4⟩ := has4 hv hk
  have c1 : Arg w hb σ n (At hb s.heap Av) x t u := ⟨I, h4.r⟩
  refine wpAny_call ?_
  rcases ref_or c1.r with ⟨xi, xt, rfl⟩ | ⟨xa, rfl⟩
  all_goals
    k_dflt (refine' enterC (binds := [(Str.ofString "term", .ref ax), (Str.ofString "values", .ref va)]) B X hav ?k6 ?k7 fit.room ?k9 ?kB ?kD ?c2 ?c3 ?c4 ?_; (case k6 => k_is); (case k7 => k_is); (case k9 => exact BindsTo.of_eq rfl); (case kB => exact rfl); (case kD => decide +kernel); (case c2 => exact rfl); (case c3 => exact rfl); (case c4 => exact rfl); k_whole)
    intro L h₁ tk D cells F₀ N Y l1 W
    dsimp only
    k_fold
    obtain ⟨o1, o2, hE, d1₀, d2₀⟩ := CellsAre.two Y
    subst hE
    have F : Fr hb L h₁ (fun _ => none) := F₀
    have d1 : o1.data = .cell (some (.ref va)) := d1₀
    have d2 : o2.data = .cell (some (.ref ax)) := d2₀
    clear F₀ d1₀ d2₀ Y
    simp only [List.cons_append, List.nil_append] at N
    have hx' := (W.pd hx).1
    have hd' := (W.pd hd).1
    have hv' := (W.pd hv.obj).1
    have W2 := wk_two W N
  · k_steps
    refine hQ _ _ _ (Wk.done (by assumption) (by assumption) (by assumption)) ?_
    exact R.mono (fun _ _ => PD.at (by assumption)) (by assumption)
  · k_steps
    refine hQ _ _ _ (Wk.done (by assumption) (by assumption) (by assumption)) ?_
    exact R.mono (fun _ _ => PD.at (by assumption)) (by assumption)
end Mine
end
theorem Mine.flush10 : True ∧ True := by
  w_top off
  try (fail_if_success walk1)
  exact ⟨trivial, trivial⟩
section
open PySem PySem.W PyProof.Rows PySem.Spec PySem.Calls PySem.W.X
set_option maxRecDepth 100000
set_option maxHeartbeats 8000000
namespace Mine
section
variable {prog : Program} {w : World} {A : Around} {E : Value → Shared → Prop} {s : Shared} {h₀ : Heap} {L : Addr} {m : Str → Option Value} {env : Env}
abbrev dctO (es : Array DictEntry) (ep : Nat) : Obj := { cls := .type "dict", data := .dict es ep }
/-- the end of a turn of a dict comprehension -/
def DEnd (h₀ : Heap) (L : Addr) (m : Str → Option Value) (s₁ : Shared) (I : Addr) (oI : Obj) (C : Addr) (oC : Obj) (D : Addr) (S : List (Addr × Obj) → Prop) (rest : Obj → List (Addr × Obj) → Prop) (s₂ : Shared) : Prop :=
  ∃ h' tk news' oD', s₂ = { s₁ with heap := h', toks := tk } ∧ Fr h₀ L h' m ∧ News h₀ L h' ((I, oI) :: (C, oC) :: (D, oD') :: news') ∧ LCg.Off3 I C D news' ∧ S news' ∧ rest oD' news'
noncomputable def DRest (prog : Program) (w : World) (A : Around) (h₀ : Heap) (L : Addr) (m : Str → Option Value) (env : Env) (kx vx : Expr) (x : Str) (scope : Scope) (cl : List (Str × Addr)) (s : Shared) (S : List (Addr × Obj) → Prop) (P : Nat → Value → Prop)
    (Fin : Obj → List (Addr × Obj) → Prop) : Nat → Nat → Obj → List (Addr × Obj) → Prop
  | 0, _, oD, news => Fin oD news
  | k + 1, i, oD, news => ∀ v I oI C oC D m₂ h tk (E' : Value → Shared → Prop), P i v → LCg.NsObj oC m₂ → m₂ x = some v → Fr h₀ L h m → News h₀ L h ((I, oI) :: (C, oC) :: (D, oD) :: news) → LCg.Off3 I C D news → ((@Ne Nat I C) ∧ (@Ne Nat I D) ∧ (@Ne Nat C D)) →
      wpAny (model prog w) A (eval kx (compEnvC scope cl C env)) (fun kv s₄ => wpAny (model prog w) A (eval vx (compEnvC scope cl C env)) (fun vv s₅ =>
        wpAny (model prog w) A (dictSet D kv vv) (fun _ s₆ => DEnd h₀ L m { s with heap := h, toks := tk } I oI C oC D S (fun oD' news' => DRest prog w A h₀ L m env kx vx x scope cl s S P Fin k (i + 1) oD' news') s₆) E' s₅) E' s₄) E' { s with heap := h, toks := tk }
theorem DRest.zero {kx vx : Expr} {x : Str} {scope : Scope} {cl : List (Str × Addr)} {S : List (Addr × Obj) → Prop} {P : Nat → Value → Prop} {Fin : Obj → List (Addr × Obj) → Prop} {i : Nat} {oD : Obj} {news : List (Addr × Obj)} (h : Fin oD news) :
    DRest prog w A h₀ L m env kx vx x scope cl s S P Fin 0 i oD news := h
theorem DRest.succ {kx vx : Expr} {x : Str} {scope : Scope} {cl : List (Str × Addr)} {S : List (Addr × Obj) → Prop} {P : Nat → Value → Prop} {Fin : Obj → List (Addr × Obj) → Prop} {k i : Nat} {oD : Obj} {news : List (Addr × Obj)}
    (h : ∀ v I oI C oC D m₂ h tk (E' : Value → Shared → Prop), P i v → LCg.NsObj oC m₂ → m₂ x = some v → Fr h₀ L h m → News h₀ L h ((I, oI) :: (C, oC) :: (D, oD) :: news) → LCg.Off3 I C D news → ((@Ne Nat I C) ∧ (@Ne Nat I D) ∧ (@Ne Nat C D)) →
      wpAny (model prog w) A (eval kx (compEnvC scope cl C env)) (fun kv s₄ => wpAny (model prog w) A (eval vx (compEnvC scope cl C env)) (fun vv s₅ =>
        wpAny (model prog w) A (dictSet D kv vv) (fun _ s₆ => DEnd h₀ L m { s with heap := h, toks := tk } I oI C oC D S (fun oD' news' => DRest prog w A h₀ L m env kx vx x scope cl s S P Fin k (i + 1) oD' news') s₆) E' s₅) E' s₄) E' { s with heap := h, toks := tk }) :
    DRest prog w A h₀ L m env kx vx x scope cl s S P Fin (k + 1) i oD news := h

theorem block_D {kx vx iter : Expr} {x : Str} {px : Pos} {scope : Scope} {cl : List (Str × Addr)} {pos : Pos} {s₂ : Shared} {I : Addr} {fp : List Addr} {n : Nat} {P : Nat → Value → Prop} {St : Nat → Heap → Prop} {S : List (Addr × Obj) → Prop} {news : List (Addr × Obj)}
    {Fin : Obj → List (Addr × Obj) → Prop} {RR : Value → Addr → Result → Shared → Prop}
    (W : Walks prog w A I fp [I] n P St) (hIo : ∀ i h, St i h → ∃ o, h.get? I = some o)
    (hSt : ∀ i h h' o nw, St i h → h.get? I = some o → h'.get? I = some o → (∀ b o, h₀.get? b = some o → h'.get? b = some o) → News h₀ L h' nw → S nw → St i h')
    (hcell : ∀ y ∈ scope.names, y.2 ≠ .cell) (hkind : scope.kind = .function) (hx : scope.names.lookup x = some .local) (hst : St 0 s₂.heap) (hfp : ∀ b ∈ fp, b < s₂.heap.objs.size)
    (F : Fr h₀ L s₂.heap m) (N : News h₀ L s₂.heap news) (hIL : L ≠ I) (hI₀ : h₀.get? I = none) (off : ∀ p ∈ news, p.1 ≠ I) (hS : S news)
    (R : DRest prog w A h₀ L m env kx vx x scope cl s₂ S P Fin n 0 (dctO #[] 0) news)
    (hRR : ∀ D C h tk m' oD news', Fr h₀ L h m → News h₀ L h ((D, oD) :: news') → LCg.Off1 D news' → h.Ns C m' → h₀.get? C = none → h₀.get? D = none → C ≠ L → D ≠ L → C ≠ D → (∀ p ∈ news', p.1 ≠ C) → Fin oD news' → RR (.ref D) C (.ok .next) { s₂ with heap := h, toks := tk }) :
    wpAny (model prog w) A newDict (fun acc s₃ => wpAny (model prog w) A (newFunctionEnv scope env.globals cl [] env.qual none .none (some env)) (fun cenv s₄ =>
      codeAny (model prog w) A (.compStart (.DictComp kx vx [⟨.Name x px, iter, [], 0⟩] scope pos) 0 (.ref I) acc { cenv with scope := relabel scope env }) (RR acc cenv.locals) s₄) E s₃) E s₂ := by
  refine wpAny_newObj_type (wpAny_newFunctionEnv hcell (by intro y hy; simp at hy) (fun h₁ hns₁ hsb₁ => ?_) hkind)
  dsimp only at hns₁ hsb₁ ⊢
  generalize hH2 : s₂.heap.push { cls := .type "dict", dict := none, data := .dict #[] } = H2 at hns₁ hsb₁ ⊢
  have hC : H2.objs.size = s₂.heap.objs.size + 1 := by rw [← hH2, Heap.size_push]
  have hDC : s₂.heap.objs.size ≠ H2.objs.size := by rw [hC]; exact Nat.ne_of_lt (Nat.lt_succ_self _)
  have below : ∀ b, b < s₂.heap.objs.size → b ≠ H2.objs.size ∧ b ≠ s₂.heap.objs.size := fun b hb => ⟨by rw [hC]; exact Nat.ne_of_lt (Nat.lt_succ_of_lt hb), Nat.ne_of_lt hb⟩
  have hDf : s₂.heap.objs.size ∉ fp := fun hm => Nat.lt_irrefl _ (hfp _ hm)
  have hCf : H2.objs.size ∉ fp := fun hm => by have := hfp _ hm; rw [hC] at this; exact Nat.lt_irrefl _ (Nat.lt_of_succ_lt this)
  have hIf : I ∈ fp := W.sub I (List.mem_singleton.mpr rfl)
  have hIlt : I < s₂.heap.objs.size := hfp I hIf
  have old : ∀ b o, s₂.heap.get? b = some o → h₁.get? b = some o := fun b o e => hsb₁.extBut b o (below b (Heap.lt_size e)).1 (Heap.get?_push_of_some _ (hH2 ▸ Heap.get?_push_of_some _ e))
  have hacc : h₁.get? s₂.heap.objs.size = some (dctO #[] 0) := hsb₁.extBut _ _ hDC (Heap.get?_push_of_some _ (hH2 ▸ Heap.get?_push_size _ rfl))
  have hst₁ : St 0 h₁ := W.frame _ _ _ hst fun b _ o e => old b o e
  have fresh : ∀ a, s₂.heap.objs.size ≤ a → s₂.heap.get? a = none := fun a ha => by
    cases e : s₂.heap.get? a with
    | none => rfl
    | some o' => exact absurd (Heap.lt_size e) (Nat.not_lt.mpr ha)
  have fresh₀ : ∀ a, s₂.heap.objs.size ≤ a → h₀.get? a = none := fun a ha => by
    cases e : h₀.get? a with
    | none => rfl
    | some o' => have := F.keep a o' e; rw [fresh a ha] at this; cases this
  have hD₀ : h₀.get? s₂.heap.objs.size = none := fresh₀ _ (Nat.le_refl _)
  have hC₀ : h₀.get? H2.objs.size = none := fresh₀ _ (by rw [hC]; exact Nat.le_succ _)
  have hLlt : L < s₂.heap.objs.size := F.ns.lt
  have hDL : s₂.heap.objs.size ≠ L := Ne.symm (below L hLlt).2
  have hCL : H2.objs.size ≠ L := Ne.symm (below L hLlt).1
  have hCI : I ≠ H2.objs.size := (below I hIlt).1
  have hDI : I ≠ s₂.heap.objs.size := (below I hIlt).2
  have off₀ : LCg.Off3 I H2.objs.size s₂.heap.objs.size news := LCg.Off3.of fun p hp => ⟨off p hp, (below _ (Heap.lt_size (N p hp).1)).1, (below _ (Heap.lt_size (N p hp).1)).2⟩
  have loop : ∀ s₃ : Shared, s₃ = { s₂ with heap := h₁, toks := s₂.toks + ([] : List (Str × Value)).length } →
      codeAny (model prog w) A (.compLoop (.DictComp kx vx [⟨.Name x px, iter, [], 0⟩] scope pos) 0 (.ref I) (.ref s₂.heap.objs.size) (compEnvC scope cl H2.objs.size env))
        (RR (.ref s₂.heap.objs.size) H2.objs.size) s₃ := by
    rintro s₃ rfl
    refine codeAny_compLoop_testsD
      (fun k s' => ∃ h' tk i oD m' news', s' = { s₂ with heap := h', toks := tk } ∧ i ≤ n ∧ k = n + 1 - i ∧ St i h' ∧ Fr h₀ L h' m ∧ h'.Ns H2.objs.size m' ∧ News h₀ L h' ((s₂.heap.objs.size, oD) :: news') ∧
        LCg.Off3 I H2.objs.size s₂.heap.objs.size news' ∧ S news' ∧ DRest prog w A h₀ L m env kx vx x scope cl s₂ S P Fin (n - i) i oD news') ?_ (n + 1)
      ⟨h₁, _, 0, _, _, news, rfl, Nat.zero_le _, rfl, hst₁, F.keeps old, hns₁, fun p hp => ?_, off₀, hS, R⟩
    · rintro k s' ⟨h', tk, i, oD, m', news', rfl, hi, rfl, hst', F', hn', N', off', hS', R'⟩
      by_cases hlt : i < n
      · obtain ⟨j, hj⟩ : ∃ j, n - i = j + 1 := ⟨n - i - 1, by omega⟩
        rw [hj] at R'
        refine W.item i _ _ _ hlt hst' fun v h₂ tk₂ hPv hst₂ hk₂ => ?_
        refine wpAny_assign_Name (wpAny_storeName_local (lookup_relabel_local hx) (hn'.at' fun o e => hk₂ _ o (by simpa using Ne.symm hCI) e) (fun h₃ hn₃ hs₃ => ?_) (by simp [compEnvC, relabel, hkind]))
        refine wpAny_tests_nil ?_
        simp only [if_true]
        have hst₃ : St (i + 1) h₃ := W.frame _ _ _ hst₂ fun b hb o e => hs₃.extBut b o (fun q => hCf (by have q' : b = H2.objs.size := q; rw [← q']; exact hb)) e
        obtain ⟨oI, heI⟩ := hIo _ _ hst₃
        obtain ⟨oC, heC, hoC⟩ := LCg.ns_obj hn₃
        have F₃ : Fr h₀ L h₃ m := (LCg.fr_but F' hk₂ hIL hI₀).change hs₃ hCL hC₀
        have off3 := off'.mem
        have N₂ : News h₀ L h₂ ((s₂.heap.objs.size, oD) :: news') := LCg.news_but N' hk₂ fun p hp => by
          rcases List.mem_cons.mp hp with rfl | hp
          · exact Ne.symm hDI
          · exact (off3 p hp).1
        have N₃ : News h₀ L h₃ ((I, oI) :: (H2.objs.size, oC) :: (s₂.heap.objs.size, oD) :: news') := fun p hp => by
          rcases List.mem_cons.mp hp with rfl | hp
          · exact ⟨heI, Ne.symm hIL, hI₀⟩
          · rcases List.mem_cons.mp hp with rfl | hp
            · exact ⟨heC, hCL, hC₀⟩
            · have z := N₂ p hp
              refine ⟨hs₃.extBut _ _ ?_ z.1, z.2⟩
              rcases List.mem_cons.mp hp with rfl | hp
              · exact hDC
              · exact (off3 p hp).2.1
        refine wpAny_mono (R' v I oI H2.objs.size oC s₂.heap.objs.size _ h₃ _ _ hPv hoC (by simp) F₃ N₃ off' ⟨hCI, hDI, Ne.symm hDC⟩) (fun kv s₄ h₄ => wpAny_mono h₄ (fun vv s₅ h₅ => wpAny_mono h₅ (fun _ s₆ h₆ => ?_) fun _ _ e => e) fun _ _ e => e) fun _ _ e => e
        obtain ⟨h₄, tk₄, news₄, oD₄, rfl, F₄, N₄, off₄, hS₄, R₄⟩ := h₆
        have zI := (N₄ (I, oI) List.mem_cons_self).1
        have zC := (N₄ (H2.objs.size, oC) (List.mem_cons_of_mem _ List.mem_cons_self)).1
        have N₄' : News h₀ L h₄ news₄ := fun p hp => N₄ p (List.mem_cons_of_mem _ (List.mem_cons_of_mem _ (List.mem_cons_of_mem _ hp)))
        have hst₄ : St (i + 1) h₄ := hSt _ _ _ _ _ hst₃ heI zI F₄.keep N₄' hS₄
        refine ⟨n + 1 - (i + 1), by omega, h₄, tk₄, i + 1, oD₄, _, news₄, rfl, hlt, rfl, hst₄, F₄, hoC.ns zC, fun p hp => N₄ p (List.mem_cons_of_mem _ (List.mem_cons_of_mem _ hp)), off₄, hS₄, ?_⟩
        rw [show n - (i + 1) = j by omega]
        exact R₄
      · obtain rfl : i = n := Nat.le_antisymm hi (Nat.not_lt.mp hlt)
        rw [Nat.sub_self] at R'
        refine W.done _ _ _ hst' fun h₂ tk₂ hk₂ => ?_
        have off3 := off'.mem
        exact hRR _ _ h₂ tk₂ _ oD news' (LCg.fr_but F' hk₂ hIL hI₀) (LCg.news_but N' hk₂ fun p hp => by
          rcases List.mem_cons.mp hp with rfl | hp
          · exact Ne.symm hDI
          · exact (off3 p hp).1) off'.one (hn'.at' fun o e => hk₂ _ o (by simpa using Ne.symm hCI) e) hC₀ hD₀ hCL hDL (Ne.symm hDC) (fun p hp => (off3 p hp).2.1) R'
    · rcases List.mem_cons.mp hp with rfl | hp
      · exact ⟨hacc, hDL, hD₀⟩
      · exact ⟨old _ _ (N p hp).1, (N p hp).2⟩
  exact codeAny_compStart_dict (loop _ rfl) (W.self 0 _ _ _ hst₁ (loop _ rfl))
def FinD (h₀ : Heap) (L : Addr) (m : Str → Option Value) (s : Shared) (Q : Value → Shared → Prop) (oD : Obj) (news : List (Addr × Obj)) : Prop :=
  ∀ D h tk, Fr h₀ L h m → News h₀ L h ((D, oD) :: news) → LCg.Off1 D news → Q (.ref D) { s with heap := h, toks := tk }
/-- sources: a list of the ledger, a dict keyed by ints of the ledger -/
def DSrcL (prog : Program) (w : World) (A : Around) (h₀ : Heap) (L : Addr) (m : Str → Option Value) (env : Env) (kx vx : Expr) (x : Str) (scope : Scope) (cl : List (Str × Addr)) (Q : Value → Shared → Prop) (xv : Value) (s₁ : Shared) : Prop :=
  ∃ ax its news, xv = .ref ax ∧ Fr h₀ L s₁.heap m ∧ News h₀ L s₁.heap news ∧ LCg.SrcAt h₀ ax its news ∧
    ∀ s₂ : Shared, (∃ h, s₂ = { s₁ with heap := h }) → DRest prog w A h₀ L m env kx vx x scope cl s₂ (LCg.SrcAt h₀ ax its) (fun i v => its[i]? = some v) (FinD h₀ L m s₂ Q) its.size 0 (dctO #[] 0) news
def SrcD (prog : Program) (w : World) (ax : Addr) (kvs : List (Int × Value)) (ep : Nat) (news : List (Addr × Obj)) : Prop := ∃ o, (ax, o) ∈ news ∧ ∀ h : Heap, h.get? ax = some o → h.DictAt (intKind prog w) ax kvs ep
def DSrcD (prog : Program) (w : World) (A : Around) (h₀ : Heap) (L : Addr) (m : Str → Option Value) (env : Env) (kx vx : Expr) (x : Str) (scope : Scope) (cl : List (Str × Addr)) (Q : Value → Shared → Prop) (xv : Value) (s₁ : Shared) : Prop :=
  ∃ ax kvs ep news, xv = .ref ax ∧ (ax == sysModules) = false ∧ Fr h₀ L s₁.heap m ∧ News h₀ L s₁.heap news ∧ SrcD prog w ax kvs ep news ∧
    ∀ s₂ : Shared, (∃ h, s₂ = { s₁ with heap := h }) → DRest prog w A h₀ L m env kx vx x scope cl s₂ (SrcD prog w ax kvs ep) (fun i v => ∃ k x, kvs[i]? = some (k, x) ∧ (intKind prog w).is k v = true) (FinD h₀ L m s₂ Q) kvs.length 0 (dctO #[] 0) news
def DSrc (prog : Program) (w : World) (A : Around) (h₀ : Heap) (L : Addr) (m : Str → Option Value) (env : Env) (kx vx : Expr) (x : Str) (scope : Scope) (cl : List (Str × Addr)) (Q : Value → Shared → Prop) (xv : Value) (s₁ : Shared) : Prop :=
  DSrcL prog w A h₀ L m env kx vx x scope cl Q xv s₁ ∨ DSrcD prog w A h₀ L m env kx vx x scope cl Q xv s₁
theorem keys_st {ax I : Addr} {kvs : List (Int × Value)} {ep : Nat} : ∀ i (h h' : Heap) (o : Obj) (nw : List (Addr × Obj)), (h.IsKeyIter I ax i kvs.length ep ∧ h.DictAt (intKind prog w) ax kvs ep) → h.get? I = some o → h'.get? I = some o → (∀ b o, h₀.get? b = some o → h'.get? b = some o) → News h₀ L h' nw → SrcD prog w ax kvs ep nw → (h'.IsKeyIter I ax i kvs.length ep ∧ h'.DictAt (intKind prog w) ax kvs ep) :=
  fun i h h' o nw st e e' _ N S => ⟨by obtain ⟨o', q, r⟩ := st.1; rw [e] at q; cases q; exact ⟨o, e', r⟩, by obtain ⟨o, hm, r⟩ := S; exact r h' (N _ hm).1⟩
theorem DictComp_X {kx vx iter : Expr} {x : Str} {px : Pos} {scope : Scope} {cl : List (Str × Addr)} {pos : Pos} {Q : Value → Shared → Prop} (_F₀ : Fr h₀ L s.heap m) (hh : A.handled = none)
    (hclos : closureFor scope env = pure cl) (hcell : ∀ y ∈ scope.names, y.2 ≠ .cell) (hkind : scope.kind = .function)
    (hnames : ∀ y ∈ scope.names, y.2 = .local → scope.names.lookup y.1 = some .local) (hx : scope.names.lookup x = some .local)
    (h : wpAny (model prog w) A (eval iter env) (DSrc prog w A h₀ L m env kx vx x scope cl Q) E s)
    (hs : ∀ x, foldedSetIterable iter env x = pure x := by intro _; rfl) :
    wpAny (model prog w) A (eval (.DictComp kx vx [⟨.Name x px, iter, [], 0⟩] scope pos) env) Q E s := by
  rw [arm_eval_DictComp]
  refine wpAny_comprehension_free (use := none) rfl hs hclos hkind hnames (wpAny_mono h (fun xv s₁ h₁ => ?_) fun _ _ e => e)
  have fin : ∀ s₂ : Shared, ∀ D C h tk m' oD news', Fr h₀ L h m → News h₀ L h ((D, oD) :: news') → LCg.Off1 D news' → h.Ns C m' → h₀.get? C = none → h₀.get? D = none → C ≠ L → D ≠ L → C ≠ D → (∀ p ∈ news', p.1 ≠ C) → FinD h₀ L m s₂ Q oD news' → compPost (model prog w) A E none Q (.ref D) C (.ok .next) { s₂ with heap := h, toks := tk } := by
    intro s₂ D C h tk m' oD news' F' N' o1 hn hC₀ hD₀ hCL hDL hCD offC fin
    refine ⟨m', hn, fun h'' hs'' => fin D h'' tk (F'.change hs'' hCL hC₀) (fun p hp => ?_) o1⟩
    refine ⟨hs''.extBut _ _ ?_ (N' p hp).1, (N' p hp).2⟩
    rcases List.mem_cons.mp hp with rfl | hp
    · exact Ne.symm hCD
    · exact offC p hp
  rcases h₁ with ⟨ax, its, news, rfl, F, N, S, R⟩ | ⟨ax, kvs, ep, news, rfl, hax, F, N, S, R⟩
  · have hl := S.list F.keep N
    have hlt : ax < s₁.heap.objs.size := by obtain ⟨_, e, _⟩ := hl; exact Heap.lt_size e
    refine wpAny_pyIter_list hl ?_
    have up : ∀ b o, s₁.heap.get? b = some o → (s₁.heap.push { cls := .type "list_iterator", data := .fields #[.ref ax, .int 0 0] }).get? b = some o := fun b o e => Heap.get?_push_of_some _ e
    refine block_D (Walks.list hh s₁.heap.objs.size ax (Nat.ne_of_lt hlt) its) (fun i h st => by obtain ⟨o, e, _⟩ := st.1; exact ⟨o, e⟩) LCg.list_st hcell hkind hx ⟨⟨_, Heap.get?_push_size _ rfl, rfl, rfl⟩, hl.push _⟩ (fun b hb => ?_)
      (F.keeps up) (N.grown up) (Nat.ne_of_lt F.ns.lt) (next_is_new F) (fun p hp => Nat.ne_of_lt (Heap.lt_size (N p hp).1)) S (R _ ⟨_, rfl⟩) (fin _)
    show b < (s₁.heap.push _).objs.size
    rw [Heap.size_push]
    rcases List.mem_cons.mp hb with rfl | hb
    · exact Nat.lt_succ_self _
    · rw [List.mem_singleton.mp hb]; exact Nat.lt_succ_of_lt hlt
  · obtain ⟨o, hm, hd⟩ := id S
    have hat := hd _ (N _ hm).1
    have hlt := hat.lt_size
    refine wpAny_pyIter_dict hax hat ?_
    have up : ∀ b o, s₁.heap.get? b = some o → (s₁.heap.push { cls := .type "dict_keyiterator", data := .fields #[.ref ax, .int 0 0, .int kvs.length 0, .int ep 0] }).get? b = some o := fun b o e => Heap.get?_push_of_some _ e
    refine block_D (Walks.dictKeys (knd := intKind prog w) hh s₁.heap.objs.size ax (Nat.ne_of_lt hlt) kvs ep) (fun i h st => by obtain ⟨o, e, _⟩ := st.1; exact ⟨o, e⟩) keys_st hcell hkind hx ⟨⟨_, Heap.get?_push_size _ rfl, rfl, rfl⟩, hat.push _⟩ (fun b hb => ?_)
      (F.keeps up) (N.grown up) (Nat.ne_of_lt F.ns.lt) (next_is_new F) (fun p hp => Nat.ne_of_lt (Heap.lt_size (N p hp).1)) S (R _ ⟨_, rfl⟩) (fin _)
    show b < (s₁.heap.push _).objs.size
    rw [Heap.size_push]
    rcases List.mem_cons.mp hb with rfl | hb
    · exact Nat.lt_succ_self _
    · rw [List.mem_singleton.mp hb]; exact Nat.lt_succ_of_lt hlt
end
end Mine
end
theorem Mine.flush11 : True ∧ True := by
  w_top off
  try (fail_if_success walk1)
  exact ⟨trivial, trivial⟩
section
open PySem PySem.W PyProof.Rows PySem.Spec PySem.Calls PySem.W.X
set_option maxRecDepth 100000
set_option maxHeartbeats 2000000
namespace Mine
local macro_rules | `(tactic| k_mem) => `(tactic| first | exact List.Mem.head _ | assumption | exact Held.mem (by assumption) | (refine' List.Mem.tail _ ?_; k_mem))
local macro_rules | `(tactic| walk_at "call builtin:isinstance") => `(tactic| (refine wpAny_A0 (n := 0) (Fits.go (by assumption) (by omega)) ?_; first
  | (refine isi_tup_Var (Frag.In.keeps (by assumption) (Fr.keep (by assumption))) _ _ _ (News.get (by assumption) (by k_mem)) _ _ (fun t9 => ?_))
  | (refine isi_tup_Tup (Frag.In.keeps (by assumption) (Fr.keep (by assumption))) _ _ _ (News.get (by assumption) (by k_mem)) _ _ (fun t9 => ?_))
  | (refine isi_lst_Var (Frag.In.keeps (by assumption) (Fr.keep (by assumption))) _ _ _ (News.get (by assumption) (by k_mem)) _ _ (fun t9 => ?_))
  | (refine isi_lst_Tup (Frag.In.keeps (by assumption) (Fr.keep (by assumption))) _ _ _ (News.get (by assumption) (by k_mem)) _ _ (fun t9 => ?_))
  | (refine isi_lst_Lst (Frag.In.keeps (by assumption) (Fr.keep (by assumption))) _ _ _ (News.get (by assumption) (by k_mem)) _ _ (fun t9 => ?_))
  | (refine isi_dct_Var (Frag.In.keeps (by assumption) (Fr.keep (by assumption))) _ _ _ (News.get (by assumption) (by k_mem)) _ _ (fun t9 => ?_))
  | (refine isi_dct_Tup (Frag.In.keeps (by assumption) (Fr.keep (by assumption))) _ _ _ (News.get (by assumption) (by k_mem)) _ _ (fun t9 => ?_))
  | (refine isi_dct_Lst (Frag.In.keeps (by assumption) (Fr.keep (by assumption))) _ _ _ (News.get (by assumption) (by k_mem)) _ _ (fun t9 => ?_))
  | (refine isi_dct_Dct (Frag.In.keeps (by assumption) (Fr.keep (by assumption))) _ _ _ (News.get (by assumption) (by k_mem)) _ _ (fun t9 => ?_))
  | (refine isi_var_Var (Frag.In.keeps (by assumption) (Fr.keep (by assumption))) _ _ (News.get (by assumption) (by k_mem)) _ _ (fun t9 => ?_))
  | (refine isi_int_Var (Frag.In.keeps (by assumption) (Fr.keep (by assumption))) _ _ _ _ (fun t9 => ?_))
  | (refine isi_int_Tup (Frag.In.keeps (by assumption) (Fr.keep (by assumption))) _ _ _ _ (fun t9 => ?_))
  | (refine isi_int_Lst (Frag.In.keeps (by assumption) (Fr.keep (by assumption))) _ _ _ _ (fun t9 => ?_))
  | (refine isi_int_Dct (Frag.In.keeps (by assumption) (Fr.keep (by assumption))) _ _ _ _ (fun t9 => ?_))))
theorem dct_is {prog : Program} {w : World} (t0 t1 : Tok) (v u : Value) (n : Nat) : (dctObj t0 t1 v u n).IsDictOf (PySem.intKind prog w) [(0, v), (1, u)] := by
  refine ⟨#[⟨0, .int 0 t0, v⟩, ⟨1, .int 1 t1, u⟩], n, ⟨rfl, rfl, rfl⟩, rfl, ?_, ?_, List.nodup_cons.mpr ⟨(by decide : ¬ (0 : Int) ∈ [(1 : Int)]), List.nodup_cons.mpr ⟨(by decide : ¬ (1 : Int) ∈ ([] : List Int)), List.nodup_nil⟩⟩⟩
  · intro e he
    simp only [List.mem_toArray, List.mem_cons, List.not_mem_nil, or_false] at he
    rcases he with rfl | rfl
    · exact ⟨0, intKind_is _ _ _ _, by show (0 : Int) = PySem.hashInt 0; decide +kernel⟩
    · exact ⟨1, intKind_is _ _ _ _, by show (1 : Int) = PySem.hashInt 1; decide +kernel⟩
  · exact .cons (intKind_is _ _ _ _) rfl (.cons (intKind_is _ _ _ _) rfl .nil)
theorem dct_at {prog : Program} {w : World} {h : Heap} {a : Addr} {t0 t1 : Tok} {v u : Value} {n : Nat} (e : h.get? a = some (dctObj t0 t1 v u n)) : h.DictAt (PySem.intKind prog w) a [(0, v), (1, u)] n := by
  refine ⟨_, #[⟨0, .int 0 t0, v⟩, ⟨1, .int 1 t1, u⟩], e, ⟨rfl, rfl, rfl⟩, rfl, ?_, ?_, List.nodup_cons.mpr ⟨(by decide : ¬ (0 : Int) ∈ [(1 : Int)]), List.nodup_cons.mpr ⟨(by decide : ¬ (1 : Int) ∈ ([] : List Int)), List.nodup_nil⟩⟩⟩
  · intro e he
    simp only [List.mem_toArray, List.mem_cons, List.not_mem_nil, or_false] at he
    rcases he with rfl | rfl
    · exact ⟨0, intKind_is _ _ _ _, by show (0 : Int) = PySem.hashInt 0; decide +kernel⟩
    · exact ⟨1, intKind_is _ _ _ _, by show (1 : Int) = PySem.hashInt 1; decide +kernel⟩
  · exact .cons (intKind_is _ _ _ _) rfl (.cons (intKind_is _ _ _ _) rfl .nil)
theorem srcD_of {prog : Program} {w : World} {a : Addr} {t0 t1 : Tok} {v u : Value} {n : Nat} {D : List (Addr × Obj)} (hm : (a, dctObj t0 t1 v u n) ∈ D) : SrcD prog w a [(0, v), (1, u)] n D := ⟨_, hm, fun _ e => dct_at e⟩
theorem not_mods {w : World} {hb : Heap} (B : Base w hb) {a : Addr} (h : hb.get? a = none) : (a == sysModules) = false := by
  have z : ∃ o, hb.get? sysModules = some o := by
    have KX := B.kx
    revert KX
    k_fill
    intro KX
    exact ⟨_, KX sysModules _ rfl⟩
  obtain ⟨o, e⟩ := z
  exact beq_eq_false_iff_ne.mpr fun q => by rw [q, e] at h; cases h
local macro_rules | `(tactic| walk_at "eval DictComp") => `(tactic| (k_dflt (refine DictComp_X (by assumption) (Fits.handled (Fits.go (by assumption) (Nat.le_refl _))) (by with_unfolding_all rfl) (by decide) (by rfl) (by decide) (by rfl) ?_)))
theorem DSrc.ledger {prog : Program} {w : World} {A : Around} {h₀ : Heap} {L : Addr} {m : Str → Option Value} {env : Env} {kx vx : Expr} {x : Str} {scope : Scope} {cl : List (Str × Addr)} {Q : Value → Shared → Prop} {ax : Addr} {v u : Value} {ep : Nat} {news : List (Addr × Obj)} {s₁ : Shared}
    (F : Fr h₀ L s₁.heap m) (N : News h₀ L s₁.heap news) (hax : (ax == sysModules) = false) (S : SrcD prog w ax [(0, v), (1, u)] ep news)
    (h : ∀ g, DRest prog w A h₀ L m env kx vx x scope cl { s₁ with heap := g } (SrcD prog w ax [(0, v), (1, u)] ep) (fun i y => ∃ k x, [((0 : Int), v), (1, u)][i]? = some (k, x) ∧ (intKind prog w).is k y = true) (FinD h₀ L m { s₁ with heap := g } Q) 2 0 (dctO #[] 0) news) :
    DSrc prog w A h₀ L m env kx vx x scope cl Q (.ref ax) s₁ := .inr ⟨ax, _, ep, news, rfl, hax, F, N, S, fun _ ⟨g, e⟩ => e ▸ h g⟩
theorem key_is {prog : Program} {w : World} {v u y : Value} {i : Nat} {j : Int} {x : Value} (hi : [((0 : Int), v), (1, u)][i]? = some (j, x)) (h : ∃ k x, [((0 : Int), v), (1, u)][i]? = some (k, x) ∧ (intKind prog w).is k y = true) : ∃ t, y = .int j t := by
  obtain ⟨k, x', e, hk⟩ := h
  rw [hi] at e
  cases e
  exact Value.isInt_shape hk
theorem dct_emp {prog : Program} {w : World} : (dctO #[] 0).IsDictOf (intKind prog w) [] := ⟨#[], 0, ⟨rfl, rfl, rfl⟩, rfl, fun e he => by simp at he, .nil, List.nodup_nil⟩
local macro_rules | `(tactic| walk_at "DSrc") => `(tactic| (k_dflt (refine DSrc.ledger (by assumption) (by assumption) (by assumption) (by assumption) ?_); intro g9; walk_say "DSRC"))
local macro_rules | `(tactic| walk_at "DRest") => `(tactic| (with_unfolding_all first
  | (refine DRest.succ ?_; intro v' I' oI' C' oC' D' m' h' tk' E' hv' hC' hx' F' N' off' ne'; obtain ⟨tv, hE⟩ := key_is rfl hv'; subst hE)
  | refine DRest.zero ?_))
structure Held3 (q r t : Addr × Obj) (D : List (Addr × Obj)) : Prop where
  m1 : q ∈ D
  m2 : r ∈ D
  m3 : t ∈ D
theorem Held3.sub {q r t : Addr × Obj} {D D' : List (Addr × Obj)} (h : Held3 q r t D) (s : ∀ p ∈ D, p ∈ D') : Held3 q r t D' := ⟨s _ h.m1, s _ h.m2, s _ h.m3⟩
theorem dset_end {prog : Program} {w : World} {A : Around} {E' : Value → Shared → Prop} {h₀ : Heap} {L : Addr} {m : Str → Option Value} {I C D ax : Addr} {kvs₀ : List (Int × Value)} {ep : Nat} {s₁ : Shared} {oI oC oD : Obj} {rest : Obj → List (Addr × Obj) → Prop} {k : Int} {t : Tok} {vv : Value} {h' : Heap} {tk : Nat} {D₀ D' : List (Addr × Obj)} {kvs : List (Int × Value)}
    (F : Fr h₀ L h' m) (N : News h₀ L h' ([(I, oI), (C, oC), (D, oD)] ++ D')) (off : ∀ p ∈ D', p.1 ∉ [(I, oI), (C, oC), (D, oD)].map (·.1)) (ne : ((@Ne Nat I C) ∧ (@Ne Nat I D) ∧ (@Ne Nat C D))) (sub : ∀ p ∈ D₀, p ∈ D') (S : SrcD prog w ax kvs₀ ep D₀)
    (hd : oD.IsDictOf (intKind prog w) kvs) (hsz : kvs.length ≤ sizeLine) (r : ∀ oD', oD'.IsDictOf (intKind prog w) (stored kvs k vv) → SrcD prog w ax kvs₀ ep D' → rest oD' D') :
    wpAny (model prog w) A (dictSet D (.int k t) vv) (fun _ s₆ => DEnd h₀ L m s₁ I oI C oC D (SrcD prog w ax kvs₀ ep) rest s₆) E' { s₁ with heap := h', toks := tk } := by
  have hm := N (D, oD) (List.mem_append_left _ (.tail _ (.tail _ (.head _))))
  refine wpAny_dictSet_pairs (knd := intKind prog w) (hsz := hsz) (intKind_is _ _ _ _) (Heap.dictOf_iff.mpr ⟨oD, hm.1, hd⟩) fun h₂ hmm hs => ?_
  obtain ⟨o', ho', hd'⟩ := Heap.dictOf_iff.mp hmm
  have o3 := off3_of off
  have S' : SrcD prog w ax kvs₀ ep D' := by obtain ⟨o, hx, e⟩ := S; exact ⟨o, sub _ hx, e⟩
  refine ⟨h₂, _, D', o', rfl, F.change hs hm.2.1 hm.2.2, fun p hp => ?_, o3, S', r o' hd' S'⟩
  rcases List.mem_cons.mp hp with rfl | hp
  · have z := N (I, oI) (.head _)
    exact ⟨hs.extBut _ _ ne.2.1 z.1, z.2⟩
  · rcases List.mem_cons.mp hp with rfl | hp
    · have z := N (C, oC) (.tail _ (.head _))
      exact ⟨hs.extBut _ _ ne.2.2 z.1, z.2⟩
    · rcases List.mem_cons.mp hp with rfl | hp
      · exact ⟨ho', hm.2⟩
      · have z := N p (List.mem_append_right _ hp)
        exact ⟨hs.extBut _ _ (LCg.Off3.mem o3 p hp).2.2 z.1, z.2⟩
local macro_rules | `(tactic| k_mem) => `(tactic| first | exact List.Mem.head _ | assumption | exact Held3.m1 (by assumption) | exact Held3.m2 (by assumption) | exact Held3.m3 (by assumption) | (refine' List.Mem.tail _ ?_; k_mem))
local macro_rules | `(tactic| walk_at "subscriptTail") => `(tactic| (k_dflt (refine kda_item (knd := PySem.intKind _ _) (o := dctObj _ _ _ _ _) (by assumption) (by k_mem) (dct_is _ _ _ _ _) (intKind_is _ _ _ _) (by rfl) ?_)))
local macro_rules | `(tactic| walk_at "dictSet int") => `(tactic| (refine dset_end (by assumption) (by assumption) (by assumption) (by assumption) (by assumption) (by assumption) (by assumption) (Nat.le_of_ble_eq_true rfl) ?_; intro oD9 hd9 S9; (have H9 := Held3.sub (by assumption) (by assumption)); walk_say "DSET"))
local macro_rules | `(tactic| walk_at "call ref") => `(tactic| (refine RC.useX (Arg.rc (σ := _) (n := _) (by assumption)) [_, _, _] (by assumption) (by assumption) (of_off3 (by assumption)) (by assumption) (Fits.go (by assumption) (by omega)) (Arg.pre (by assumption) (by assumption) (by assumption)) mono_full mono_R ?_; intro v9 h9 t9 D9 F9 N9 o9 s9 W9 p9))
local macro_rules | `(tactic| walk_at "FinD") => `(tactic| (intro D' h' tk' F' N' o1'; walk_say "FIND"))
theorem fin_dct' {prog : Program} {w : World} {hb h₀ h' : Heap} {Av : Addr → Prop} {L a : Addr} {D₁ D₂ : List (Addr × Obj)} {v u : Value} {o : Obj} {t₁ t₂ : Tm} (N : News hb L h' ((a, o) :: D₂)) (W : Wk hb h₀ Av L D₂) (l : LCg.Off1 a D₂) (hd : o.IsDictOf (intKind prog w) (stored (stored [] 0 v) 1 u)) (p2 : R (PD D₂ Av) u t₂) (p1 : R (PD D₁ Av) v t₁) (s : ∀ p ∈ D₁, p ∈ D₂) : R (At hb h' Av) (.ref a) (.dct t₁ t₂) := by
  obtain ⟨t0, t1, n, rfl⟩ := dct_of (show o.IsDictOf (intKind prog w) [(0, v), (1, u)] from hd)
  exact .dct (PD.at N (W.newOff (.head _) N (off1_mem l))) (p1.mono fun _ _ y => PD.at N (PD.sub (fun p hp => .tail _ (s p hp)) y)) (p2.mono fun _ _ y => PD.at N (PD.sub (fun _ hp => .tail _ hp) y))
theorem full_dct {w : World} {hb : Heap} (B : Base w hb) {σ : Sb} {n : Nat} {a b x y : Tm} (I1 : FullC w hb σ n a x) (I2 : FullC w hb σ n b y) : FullC w hb σ (n + 1) (.dct a b) (.dct x y) := by
  intro v va v0 v1 v2 v3 m
  unfold RC
  have KX := B.kx
  revert KX
  k_fill
  intro KX A s Av fit X hav hp Q E hQ
  obtain ⟨hr, hv⟩ := hp
  cases hr with
  | @dct ax t0 t1 e1 e2 k _ _ ho ra rb =>
  have c1 : Arg w hb σ n (At hb s.heap Av) _ _ _ := ⟨I1, ra⟩
  have c2 : Arg w hb σ n (At hb s.heap Av) _ _ _ := ⟨I2, rb⟩
  obtain ⟨mean, mg, mb, T⟩ := B.top
  have lo := not_mods B ho.2.1
  refine wpAny_call ?_
  k_dflt (refine' enterC (binds := [(Str.ofString "term", .ref ax), (Str.ofString "values", .ref va)]) B X hav ?k6 ?k7 fit.room ?k9 ?kB ?kD ?c2 ?c3 ?c4 ?_; (case k6 => k_is); (case k7 => k_is); (case k9 => exact BindsTo.of_eq rfl); (case kB => exact rfl); (case kD => decide +kernel); (case c2 => exact rfl); (case c3 => exact rfl); (case c4 => exact rfl); k_whole)
  intro L h₁ tk D cells F₀ N Y l1 W
  dsimp only
  k_fold
  obtain ⟨o1, o2, hE, d1₀, d2₀⟩ := CellsAre.two Y
  subst hE
  have F : Fr hb L h₁ (fun _ => none) := F₀
  have d1 : o1.data = .cell (some (.ref va)) := d1₀
  have d2 : o2.data = .cell (some (.ref ax)) := d2₀
  clear F₀ d1₀ d2₀ Y
  simp only [List.cons_append, List.nil_append] at N
  have ho' := (W.pd ho).1
  have hv' := (W.pd hv.obj).1
  have W2 := wk_two W N
  have S2 : SrcD PySem.Challenge.rw_fe0177_01.prog w ax [(0, e1), (1, e2)] k ((L + 1 + 1, o1) :: (L + 1, o2) :: D) := srcD_of (src_two N ho')
  have HC : Held3 (L + 1 + 1, o1) (L + 1, o2) (ax, dctObj t0 t1 e1 e2 k) ((L + 1 + 1, o1) :: (L + 1, o2) :: D) := ⟨.head _, .tail _ (.head _), .tail _ (.tail _ ho')⟩
  have hdx : (dctObj t0 t1 e1 e2 k).IsDictOf (PySem.intKind PySem.Challenge.rw_fe0177_01.prog w) [(0, e1), (1, e2)] := dct_is _ _ _ _ _
  have hde : (dctO #[] 0).IsDictOf (PySem.intKind PySem.Challenge.rw_fe0177_01.prog w) [] := dct_emp
  k_steps
  refine hQ _ _ _ (Wk.done (Wk.cons (by assumption)) (by assumption) (by assumption)) ?_
  rename_i N0 o0
  exact fin_dct' N0 (by assumption) o0 (by assumption) (by assumption) (by assumption) (by assumption)
theorem full_of {w : World} {hb : Heap} (B : Base w hb) {σ : Sb} {n : Nat} {t u : Tm} (h : Full σ n t u) : FullC w hb σ n t u := by
  induction h with
  | int n i => exact full_int B
  | free h => exact full_free B h
  | var h _ ih => exact full_bound B h ih
  | tup2 _ _ a b => exact full_tup2 B a b
  | tup3 _ _ a b => exact full_tup3 B a b
  | lst _ _ a b => exact full_lst B a b
  | dct _ _ a b => exact full_dct B a b
end Mine
end
theorem Mine.flush12 : True ∧ True := by
  w_top off
  try (fail_if_success walk1)
  exact ⟨trivial, trivial⟩
section
open PySem PySem.W PyProof.Rows PySem.Spec PySem.Calls PySem.W.X
set_option maxRecDepth 100000
set_option maxHeartbeats 2000000
namespace Mine
def HasHash (k : Int) (v : Value) : Prop := ∃ t, v = .int (hashInt k) t
theorem entry_hash : entryFor table "hash" = some Builtin.«hash» := entryFor_of_fast (by kernel_rfl)
theorem kind_hash : builtinKind "hash" = none := by decide +kernel
theorem plain_hash : plainId "hash" = true := by decide +kernel
theorem args_hash1 (a : Value) : argsOk "hash" ⟨[a], []⟩ := by unfold argsOk; kernel_rfl
theorem call_hash_int {prog : Program} {w : World} {A : Around} {E : Value → Shared → Prop} {s : Shared} {k : Int} {t : Tok} {Q : Value → Shared → Prop}
    (h : Q (.int (hashInt k) (s.toks + 1)) { s with toks := s.toks + 1 + 1 }) : wpAny (model prog w) A (call (.builtin "hash") [.int k t]) Q E s := by
  refine call_function_entry kind_hash plain_hash entry_hash (args_hash1 _) ?_
  unfold Builtin.«hash»
  refine wpAny_bind (m := oneArg "hash" _) (wpAny_pure ?_)
  refine wpAny_bind (wpAny_pyHash_int ?_)
  show wpAny _ _ (do ret (← mkInt (hashInt k))) _ _ _
  exact wpAny_bind (wpAny_mkInt (wpAny_pure ⟨_, rfl, h⟩))
local macro_rules | `(tactic| walk_at "call builtin:hash cons nil") => `(tactic| (k_dflt (refine call_hash_int ?_)))
theorem hash_new {w : World} {hb : Heap} (B : Base w hb) (x : Addr) (k : Int) : RC w hb (.ref 182) [.ref x] 5 (fun P => R P (.ref x) (.var k)) (fun v _ => HasHash k v) := by
  unfold RC
  have KX := B.kx
  revert KX
  k_fill
  intro KX A s Av fit X hav hp Q E hQ
  cases hp with
  | @var _ dx hs t0 _ tk0 ep hx hd =>
  obtain ⟨mean, mg, mb, T⟩ := B.top
  refine wpAny_call ?_
  k_dflt (refine' enter (binds := [(Str.ofString "self", .ref x)]) B X hav ?k6 ?k7 fit.room ?k9 ?kB ?c2 ?c3 ?c4 ?c5 ?_; (case k6 => k_is); (case k7 => k_is); (case k9 => exact BindsTo.of_eq rfl); (case c5 => decide); (case kB => exact locs rfl); (case c2 => exact rfl); (case c3 => exact rfl); (case c4 => exact rfl); k_whole)
  intro L h₁ D F N l1 W
  dsimp only
  k_fold
  have hx' := (W.pd hx).1
  have hd' := (W.pd hd).1
  k_steps
  exact hQ _ _ _ (Wk.done (by assumption) (by assumption) (by assumption)) ⟨_, rfl⟩
end Mine
end
theorem Mine.flush13 : True ∧ True := by
  w_top off
  try (fail_if_success walk1)
  exact ⟨trivial, trivial⟩
section
open PySem PySem.W PyProof.Rows PySem.Spec PySem.Calls PySem.W.X
set_option maxRecDepth 100000
set_option maxHeartbeats 2000000
namespace Mine
theorem e_done {s : Shared} {h' : Heap} {news : List (Addr × Obj)} {Q : Value → Shared → Prop} {v : Value} {tk : Nat}
    (hQ : ∀ h' tk, Ext s.heap h' → Q v { s with heap := h', toks := tk }) (D : Mem s.heap h' [] news) : Q v ⟨h', s.gens, s.drawn, tk, s.os⟩ := hQ h' tk (ext_of D)
local macro_rules | `(tactic| x_close) => `(tactic| (first | exact e_done (by assumption) (by assumption)))
theorem eq_raw_vv {w : World} {s : Shared} : (hd.heap_39 w.params).In s.heap → ∀ (x dx y dy : Addr) (hs hs2 : Int) (t t2 : Tok) (k : Int) (tk tk2 : Tok) (ep ep2 : Nat) (hx : s.heap.get? x = some { cls := .ref 185, dict := some dx, data := .plain }) (hd : s.heap.get? dx = some { cls := .type "dict", data := .dict #[⟨hs, .str ⟨#[116, 111, 107, 101, 110]⟩ t, .int k tk⟩] ep })
   (hy : s.heap.get? y = some { cls := .ref 185, dict := some dy, data := .plain }) (hd2 : s.heap.get? dy = some { cls := .type "dict", data := .dict #[⟨hs2, .str ⟨#[116, 111, 107, 101, 110]⟩ t2, .int k tk2⟩] ep2 }) (Q E : Value → Shared → Prop)
  (hQ : ∀ h' tk, Ext s.heap h' → Q (.bool true) { s with heap := h', toks := tk }),
   wpAny (model PySem.Challenge.rw_fe0177_01.prog w) A0 (call (.ref 175) [.ref x, .ref y]) Q E s := by
  k_fill
  intro KX x dx y dy hs hs2 t t2 k tk tk2 ep ep2 hx hd hy hd2 Q E hQ
  x_run
theorem eq_raw_vi {w : World} {s : Shared} : (hd.heap_39 w.params).In s.heap → ∀ (x dx : Addr) (hs : Int) (t : Tok) (k i : Int) (tk ti : Tok) (ep : Nat) (hx : s.heap.get? x = some { cls := .ref 185, dict := some dx, data := .plain }) (hd : s.heap.get? dx = some { cls := .type "dict", data := .dict #[⟨hs, .str ⟨#[116, 111, 107, 101, 110]⟩ t, .int k tk⟩] ep })
   (Q E : Value → Shared → Prop)
  (hQ : ∀ h' tk, Ext s.heap h' → Q .notImplemented { s with heap := h', toks := tk }),
   wpAny (model PySem.Challenge.rw_fe0177_01.prog w) A0 (call (.ref 175) [.ref x, .int i ti]) Q E s := by
  k_fill
  intro KX x dx hs t k i tk ti ep hx hd Q E hQ
  x_run
end Mine
end
theorem Mine.flush14 : True ∧ True := by
  w_top off
  try (fail_if_success walk1)
  exact ⟨trivial, trivial⟩
section
open PySem PySem.W PyProof.Rows PySem.Spec PySem.Calls PySem.W.X
set_option maxRecDepth 100000
set_option maxHeartbeats 2000000
namespace Mine
abbrev MG (w : World) : Model := model PySem.Challenge.rw_fe0177_01.prog w
theorem find_hash (w : World) : findIn (hd.heap_39 w.params) (.ref 185) (Str.ofString "__hash__") = some (some (.ref 182)) := by kernel_rfl
theorem find_eq (w : World) : findIn (hd.heap_39 w.params) (.ref 185) (Str.ofString "__eq__") = some (some (.ref 175)) := by kernel_rfl
theorem type_182 (w : World) : typeIn (hd.heap_39 w.params) (.ref 182) = some (.type "function") := by kernel_rfl
theorem type_175 (w : World) : typeIn (hd.heap_39 w.params) (.ref 175) = some (.type "function") := by kernel_rfl
theorem Fits.cl {A : Around} {n : Nat} (f : Fits A n) : A.units < cLine := by
  have := f.units
  have e : 9000 < cLine := by decide
  omega
theorem pyHash_var {w : World} {hb : Heap} (B : Base w hb) {A : Around} {s : Shared} {Av : Addr → Prop} {x : Addr} {k : Int} {Q : Int → Shared → Prop} {E : Value → Shared → Prop} (f : Fits A 6) (X : Ext hb s.heap) (hav : ∀ a, Av a → ∃ o, s.heap.get? a = some o)
    (r : R (At hb s.heap Av) (.ref x) (.var k)) (h0 : 0 ≤ k) (h4 : k < 4) (h : ∀ h' tk, Ext s.heap h' → Q k { s with heap := h', toks := tk }) :
    wpAny (MG w) A (pyHash (.ref x)) Q E s := by
  have hk : hashInt k = k := by
    have : k = 0 ∨ k = 1 ∨ k = 2 ∨ k = 3 := by omega
    rcases this with rfl | rfl | rfl | rfl <;> decide +kernel
  have KX := B.kx.keeps X
  have HC := hash_new B x k
  have hT : ∃ o, s.heap.get? x = some o ∧ o.cls = .ref 185 := by
    cases r with
    | var hx _ => exact ⟨_, hx.1, rfl⟩
  obtain ⟨o, ho, hc⟩ := hT
  unfold pyHash pyHashByItsType
  have hu : A.units < cLine := Fits.cl f
  have Sp : ∀ {α : Type} {K : Option Value → Sem α} {Q : α → Shared → Prop} {A : Around} {E : Value → Shared → Prop}, wpAny (MG w) A (K (some (.ref 182))) Q E s → wpAny (MG w) A (specialOf (.ref x) (Str.ofString "__hash__") >>= K) Q E s := by
    intro α K Q A E z
    unfold specialOf
    refine wpAny_bind (wpAny_bind (wpAny_typeOf_ref ho ?_))
    rw [hc]
    exact (looks_findIn KX (find_hash w)).here z
  refine wpAny_bind (wpAny_cRoomFor hu ?_)
  refine Sp ?_
  rw [if_neg (by decide)]
  refine Sp ?_
  rw [if_neg (by decide)]
  refine wpAny_bind ?_
  unfold callSpecialIfBoundUnlessNone? bindSpecialIfBound?
  refine wpAny_holding (wpAny_bind (Sp ?_))
  have fin : ∀ (refuse : Sem (Option Value)) (Q' : Option Value → Shared → Prop), (∀ h' tk t, Ext s.heap h' → Q' (some (.int k t)) { s with heap := h', toks := tk }) →
      wpAny (MG w) A (if (Value.ref 182 == Value.none) = true then refuse else (call (.ref 182) [.ref x] >>= fun v => pure (some v))) Q' E s := by
    intro refuse Q' hq
    rw [if_neg (by decide)]
    refine wpAny_bind (HC A s Av (f.less (by omega)) X hav r _ _ fun v h' tk xt hv => ?_)
    obtain ⟨t, rfl⟩ := hv
    rw [hk]
    exact wpAny_pure (hq _ _ _ xt)
  have fin2 : ∀ h' tk (t : Tok), Ext s.heap h' → wpAny (MG w) A (pyHashByItsType.reduced k) Q E { s with heap := h', toks := tk } := by
    intro h' tk t xt
    unfold pyHashByItsType.reduced
    rw [if_pos (by rw [decide_eq_true (by omega : (-(2 ^ 63 : Int)) ≤ k), decide_eq_true (by omega : k < 2 ^ 63)]; rfl), if_neg (by simp only [beq_iff_eq]; omega)]
    exact wpAny_pure (h _ _ xt)
  refine wpAny_bind (wpAny_askSetting (wpAny_ite ?_))
  split
  · refine wpAny_bind ((bind_fn KX _ (type_182 w)).here (wpAny_pure ?_))
    exact fin _ _ fin2
  · refine wpAny_tryCatch (wpAny_bind ((bind_fn KX _ (type_182 w)).here (wpAny_pure ?_)))
    exact fin _ _ fin2
end Mine
end
theorem Mine.flush15 : True ∧ True := by
  w_top off
  try (fail_if_success walk1)
  exact ⟨trivial, trivial⟩
section
open PySem PySem.W PyProof.Rows PySem.Spec PySem.Calls PySem.W.X
set_option maxRecDepth 100000
set_option maxHeartbeats 2000000
namespace Mine
theorem d_done {s : Shared} {Q : Value → Shared → Prop} {v : Value} {tk : Nat}
    (hQ : ∀ tk, Q v { s with toks := tk }) : Q v ⟨s.heap, s.gens, s.drawn, tk, s.os⟩ := hQ tk
local macro_rules | `(tactic| x_close) => `(tactic| (first | exact d_done (by assumption)))
theorem int_eq_var {w : World} {s : Shared} : (hd.heap_39 w.params).In s.heap → ∀ (x dx : Addr) (i : Int) (ti : Tok) (hx : s.heap.get? x = some { cls := .ref 185, dict := some dx, data := .plain })
   (Q E : Value → Shared → Prop) (hQ : ∀ tk, Q .notImplemented { s with toks := tk }),
   wpAny (model PySem.Challenge.rw_fe0177_01.prog w) A0 (call (.builtin "int.__eq__") [.int i ti, .ref x]) Q E s := by
  k_fill
  intro KX x dx i ti hx Q E hQ
  x_run
theorem eq_var_var {w : World} {hb : Heap} (B : Base w hb) (x y : Addr) (k : Int) : RC w hb (.ref 175) [.ref x, .ref y] 3 (fun P => R P (.ref x) (.var k) ∧ R P (.ref y) (.var k)) (fun v _ => v = .bool true) := by
  intro A s Av f X hav hp Q E hQ
  obtain ⟨h1, h2⟩ := hp
  cases h1 with
  | var hx hd =>
  cases h2 with
  | var hy hd2 => exact wpAny_A0 f (eq_raw_vv (B.kx.keeps X) x _ y _ _ _ _ _ _ _ _ _ _ hx.1 hd.1 hy.1 hd2.1 _ _ fun h' tk xt => hQ _ _ _ xt rfl)
theorem eq_var_int {w : World} {hb : Heap} (B : Base w hb) (x : Addr) (k i : Int) (t : Tok) : RC w hb (.ref 175) [.ref x, .int i t] 3 (fun P => R P (.ref x) (.var k)) (fun v _ => v = .notImplemented) := by
  intro A s Av f X hav hp Q E hQ
  cases hp with
  | var hx hd => exact wpAny_A0 f (eq_raw_vi (B.kx.keeps X) x _ _ _ _ _ _ _ _ hx.1 hd.1 _ _ fun h' tk xt => hQ _ _ _ xt rfl)
section
variable {w : World} {A : Around} {s : Shared} {x : Addr} {o : Obj}
theorem bsib {α : Type} {name : Str} {f : Addr} {K : Option (Value × List Value) → Sem α} {Q : α → Shared → Prop} {E : Value → Shared → Prop} (KX : (hd.heap_39 w.params).In s.heap) (ho : s.heap.get? x = some o) (hc : o.cls = .ref 185)
    (hs : findIn (hd.heap_39 w.params) (.ref 185) name = some (some (.ref f))) (hf : typeIn (hd.heap_39 w.params) (.ref f) = some (.type "function"))
    (h : wpAny (MG w) A (K (some (.ref f, [.ref x]))) Q E s) : wpAny (MG w) A (bindSpecialIfBound? (.ref x) name >>= K) Q E s := by
  unfold bindSpecialIfBound? specialOf
  refine wpAny_bind (wpAny_bind (wpAny_bind (wpAny_typeOf_ref ho ?_)))
  rw [hc]
  refine (looks_findIn KX hs).here ?_
  refine wpAny_bind (wpAny_askSetting (wpAny_ite ?_))
  split
  · exact wpAny_bind ((bind_fn KX _ hf).here (wpAny_pure h))
  · exact wpAny_tryCatch (wpAny_bind ((bind_fn KX _ hf).here (wpAny_pure h)))
theorem csib {name : Str} {f : Addr} {args : List Value} {Q : Option Value → Shared → Prop} {E : Value → Shared → Prop} (KX : (hd.heap_39 w.params).In s.heap) (ho : s.heap.get? x = some o) (hc : o.cls = .ref 185)
    (hs : findIn (hd.heap_39 w.params) (.ref 185) name = some (some (.ref f))) (hf : typeIn (hd.heap_39 w.params) (.ref f) = some (.type "function"))
    (h : wpAny (MG w) A (call (.ref f) (.ref x :: args)) (fun v => Q (some v)) E s) : wpAny (MG w) A (callSpecialIfBound? (.ref x) name args) Q E s := by
  unfold callSpecialIfBound?
  exact wpAny_holding (bsib KX ho hc hs hf (wpAny_bind (wpAny_mono h (fun v s' h' => wpAny_pure h') fun _ _ e => e)))
end
theorem var_obj {P : Addr → Obj → Prop} {x : Addr} {k : Int} (r : R P (.ref x) (.var k)) : ∃ o, P x o ∧ o.cls = .ref 185 := by
  cases r with
  | var hx _ => exact ⟨_, hx, rfl⟩
section
variable {w : World} {hb : Heap} {A : Around} {s : Shared} {Av : Addr → Prop} {x y : Addr} {k : Int} {E : Value → Shared → Prop}
theorem cmp_vv (B : Base w hb) {Q : Value → Shared → Prop} (f : Fits A 4) (X : Ext hb s.heap) (hav : ∀ a, Av a → ∃ o, s.heap.get? a = some o)
    (r : R (At hb s.heap Av) (.ref x) (.var k)) (r2 : R (At hb s.heap Av) (.ref y) (.var k)) (h : ∀ h' tk, Ext s.heap h' → Q (.bool true) { s with heap := h', toks := tk }) :
    wpAny (MG w) A (richCompare .Eq (.ref x) (.ref y)) Q E s := by
  have KX := B.kx.keeps X
  obtain ⟨o, ho, hc⟩ := var_obj r
  obtain ⟨o2, ho2, hc2⟩ := var_obj r2
  unfold richCompare
  simp only [oneThing_ref]
  refine wpAny_holding ?_
  refine wpAny_bind (wpAny_cRoomFor f.cl ?_)
  rw [show cmpInfo .Eq = ("==", Str.ofString "__eq__", Str.ofString "__eq__") from rfl]
  dsimp only
  refine wpAny_bind (wpAny_typeOf_ref ho.1 ?_)
  rw [hc]
  refine wpAny_bind (wpAny_typeOf_ref ho2.1 ?_)
  rw [hc2]
  rw [show (Value.ref 185 != Value.ref 185) = false from by simp]
  simp only [Bool.false_eq_true, if_false]
  refine wpAny_bind (wpAny_pure ?_)
  simp only [Bool.false_eq_true, if_false]
  unfold tryCompare
  refine wpAny_bind (wpAny_bind (csib KX ho.1 hc (find_eq w) (type_175 w) (eq_var_var B x y k A s Av (f.less (by omega)) X hav ⟨r, r2⟩ _ _ fun v h' tk xt hv => ?_)))
  subst hv
  exact wpAny_pure (wpAny_pure (h _ _ xt))
theorem eqb_vv (B : Base w hb) {Q : Bool → Shared → Prop} (f : Fits A 4) (X : Ext hb s.heap) (hav : ∀ a, Av a → ∃ o, s.heap.get? a = some o)
    (r : R (At hb s.heap Av) (.ref x) (.var k)) (r2 : R (At hb s.heap Av) (.ref y) (.var k)) (h : ∀ h' tk, Ext s.heap h' → Q true { s with heap := h', toks := tk }) :
    wpAny (MG w) A (eqBool (.ref x) (.ref y)) Q E s := by
  unfold eqBool
  refine wpAny_holding ?_
  by_cases e : (Value.ref x == Value.ref y) = true
  · rw [if_pos e]
    exact wpAny_bind (wpAny_rule (wpAny_pure (h _ _ (Ext.refl _))))
  · rw [if_neg e]
    refine wpAny_bind (cmp_vv B f X hav r r2 fun h' tk xt => ?_)
    exact wpAny_truthy_bool (h _ _ xt)
theorem eqb_vi (B : Base w hb) {i : Int} {t : Tok} {Q : Bool → Shared → Prop} (f : Fits A 4) (X : Ext hb s.heap) (hav : ∀ a, Av a → ∃ o, s.heap.get? a = some o)
    (r : R (At hb s.heap Av) (.ref x) (.var k)) (h : ∀ h' tk, Ext s.heap h' → Q false { s with heap := h', toks := tk }) :
    wpAny (MG w) A (eqBool (.ref x) (.int i t)) Q E s := by
  have KX := B.kx.keeps X
  obtain ⟨o, ho, hc⟩ := var_obj r
  unfold eqBool
  refine wpAny_holding ?_
  rw [if_neg (show ¬ (Value.ref x == Value.int i t) = true by simp)]
  show wpAny _ _ (richCompare .Eq (.ref x) (.int i t) >>= _) _ _ _
  refine wpAny_bind ?_
  unfold richCompare
  simp only [oneThing_ref]
  refine wpAny_holding ?_
  refine wpAny_bind (wpAny_cRoomFor f.cl ?_)
  rw [show cmpInfo .Eq = ("==", Str.ofString "__eq__", Str.ofString "__eq__") from rfl]
  dsimp only
  refine wpAny_bind (wpAny_typeOf_ref ho.1 ?_)
  rw [hc]
  refine wpAny_bind (wpAny_typeOf (typeIs_int s i t) ?_)
  rw [show (Value.ref 185 != Value.type "int") = true from by simp]
  rw [if_pos rfl]
  refine wpAny_bind (wpAny_of_eq (a := false) (by rw [isSubtype_type]; kernel_rfl) ?_)
  simp only [Bool.false_eq_true, if_false]
  unfold tryCompare
  refine wpAny_bind (wpAny_bind (csib KX ho.1 hc (find_eq w) (type_175 w) (eq_var_int B x k i t A s Av (f.less (by omega)) X hav r _ _ fun v h' tk xt hv => ?_)))
  subst hv
  refine wpAny_pure ?_
  dsimp only
  simp only [Bool.not_false, if_true]
  refine wpAny_bind ?_
  refine wpAny_bind (wpAny_callSpecialIfBound?_slot (typeIs_int _ i t) slot_int_eq ?_)
  have hvx : ∃ dx, h'.get? x = some { cls := .ref 185, dict := some dx, data := .plain } := by
    cases r with
    | var hx _ => exact ⟨_, xt _ _ hx.1⟩
  obtain ⟨dx, hvx⟩ := hvx
  refine wpAny_A0 (n := 0) (f.less (by omega)) (int_eq_var (s := { s with heap := h', toks := tk }) (KX.keeps xt) x dx i t hvx _ _ fun tk2 => ?_)
  refine wpAny_pure ?_
  dsimp only
  refine wpAny_bind (wpAny_rule (wpAny_bind (wpAny_of_eq (a := false) (by rfl) (wpAny_pure ?_))))
  exact wpAny_truthy_bool (h _ _ xt)
end
end Mine
end
theorem Mine.flush16 : True ∧ True := by
  w_top off
  try (fail_if_success walk1)
  exact ⟨trivial, trivial⟩
section
open PySem PySem.W PyProof.Rows PySem.Spec PySem.Calls PySem.W.X
set_option maxRecDepth 100000
set_option maxHeartbeats 2000000
namespace Mine
local macro_rules | `(tactic| x_close) => `(tactic| (first | exact e_done (by assumption) (by assumption)))
theorem ne_raw_vv {w : World} {s : Shared} : (hd.heap_39 w.params).In s.heap → ∀ (x dx y dy : Addr) (hs hs2 : Int) (t t2 : Tok) (k : Int) (tk tk2 : Tok) (ep ep2 : Nat) (hx : s.heap.get? x = some { cls := .ref 185, dict := some dx, data := .plain }) (hd : s.heap.get? dx = some { cls := .type "dict", data := .dict #[⟨hs, .str ⟨#[116, 111, 107, 101, 110]⟩ t, .int k tk⟩] ep })
   (hy : s.heap.get? y = some { cls := .ref 185, dict := some dy, data := .plain }) (hd2 : s.heap.get? dy = some { cls := .type "dict", data := .dict #[⟨hs2, .str ⟨#[116, 111, 107, 101, 110]⟩ t2, .int k tk2⟩] ep2 }) (Q E : Value → Shared → Prop)
  (hQ : ∀ h' tk, Ext s.heap h' → Q (.bool false) { s with heap := h', toks := tk }),
   wpAny (model PySem.Challenge.rw_fe0177_01.prog w) A0 (call (.builtin "object.__ne__") [.ref x, .ref y]) Q E s := by
  k_fill
  intro KX x dx y dy hs hs2 t t2 k tk tk2 ep ep2 hx hd hy hd2 Q E hQ
  x_run
theorem find_ne (w : World) : findIn (hd.heap_39 w.params) (.ref 185) (Str.ofString "__ne__") = some (some (.builtin "object.__ne__")) := by kernel_rfl
theorem on_bind (self : Value) : bindSpecial (.builtin "object.__ne__") self = pure (.builtin "object.__ne__", [self]) :=
  (Slot.of (T := "object") (name := "__ne__") (owner := "object") (n := "__ne__") (by rw [typeLookup_type, builtinLookup_eq_fast]; kernel_rfl) (by decide +kernel) (by decide +kernel) (by decide +kernel)
    (.inl (by decide +kernel)) (by rw [isSubtype_type]; kernel_rfl)).bind self
section
variable {w : World} {hb : Heap} {A : Around} {s : Shared} {Av : Addr → Prop} {x y : Addr} {k : Int} {E : Value → Shared → Prop}
theorem ne_vv (B : Base w hb) {Q : Value → Shared → Prop} (f : Fits A 4) (X : Ext hb s.heap)
    (r : R (At hb s.heap Av) (.ref x) (.var k)) (r2 : R (At hb s.heap Av) (.ref y) (.var k)) (h : ∀ h' tk, Ext s.heap h' → Q (.bool false) { s with heap := h', toks := tk }) :
    wpAny (MG w) A (richCompare .NotEq (.ref x) (.ref y)) Q E s := by
  have KX := B.kx.keeps X
  obtain ⟨o, ho, hc⟩ := var_obj r
  obtain ⟨o2, ho2, hc2⟩ := var_obj r2
  unfold richCompare
  simp only [oneThing_ref]
  refine wpAny_holding ?_
  refine wpAny_bind (wpAny_cRoomFor f.cl ?_)
  rw [show cmpInfo .NotEq = ("!=", Str.ofString "__ne__", Str.ofString "__ne__") from rfl]
  dsimp only
  refine wpAny_bind (wpAny_typeOf_ref ho.1 ?_)
  rw [hc]
  refine wpAny_bind (wpAny_typeOf_ref ho2.1 ?_)
  rw [hc2]
  rw [show (Value.ref 185 != Value.ref 185) = false from by simp]
  simp only [Bool.false_eq_true, if_false]
  refine wpAny_bind (wpAny_pure ?_)
  simp only [Bool.false_eq_true, if_false]
  unfold tryCompare
  refine wpAny_bind (wpAny_bind ?_)
  have fin : ∀ Q' : Option Value → Shared → Prop, (∀ h' tk, Ext s.heap h' → Q' (some (.bool false)) { s with heap := h', toks := tk }) → wpAny (MG w) A (call (.builtin "object.__ne__") ([.ref x] ++ [.ref y]) >>= fun v => pure (some v)) Q' E s := by
    intro Q' hq
    refine wpAny_bind ?_
    cases r with
    | var hx hd =>
    cases r2 with
    | var hy hd2 => exact wpAny_A0 f (ne_raw_vv KX x _ y _ _ _ _ _ _ _ _ _ _ hx.1 hd.1 hy.1 hd2.1 _ _ fun h' tk xt => wpAny_pure (hq _ _ xt))
  unfold callSpecialIfBound? bindSpecialIfBound? specialOf
  refine wpAny_holding (wpAny_bind (wpAny_bind (wpAny_bind (wpAny_typeOf_ref ho.1 ?_))))
  rw [hc]
  refine (looks_findIn KX (find_ne w)).here ?_
  refine wpAny_bind (wpAny_askSetting (wpAny_ite ?_))
  split
  · refine wpAny_bind (wpAny_of_eq (on_bind _) (wpAny_pure ?_))
    exact fin _ fun h' tk xt => wpAny_pure (wpAny_pure (h _ _ xt))
  · refine wpAny_tryCatch (wpAny_bind (wpAny_of_eq (on_bind _) (wpAny_pure ?_)))
    exact fin _ fun h' tk xt => wpAny_pure (wpAny_pure (h _ _ xt))
end
end Mine
end
theorem Mine.flush17 : True ∧ True := by
  w_top off
  try (fail_if_success walk1)
  exact ⟨trivial, trivial⟩
section
open PySem PySem.W PyProof.Rows PySem.Spec PySem.Calls PySem.W.X
set_option maxRecDepth 100000
set_option maxHeartbeats 2000000
namespace Mine
open PySem.AutoSeq1 (wpAny_loadPart')
open PySem.MeetsSeq PySem.MeetsSeq2 PySem.MeetsSeq3 PySem.SeqRoads2
/-- two items are equal, in any heap grown from s -/
def EqI (w : World) (A : Around) (s : Shared) (v y : Value) : Prop := ∀ (h₁ : Heap) (tk₁ : Nat), Ext s.heap h₁ → ∀ (Q : Bool → Shared → Prop) (E : Value → Shared → Prop), (∀ h' tk, Ext h₁ h' → Q true { s with heap := h', toks := tk }) → wpAny (MG w) A (eqBool v y) Q E { s with heap := h₁, toks := tk₁ }
section
variable {w : World} {A : Around} {s : Shared} {l b : Addr} {vs ws : List Value} {n n2 : Nat} {E : Value → Shared → Prop}
theorem tup_eqG (hl : s.heap.get? l = some (tupObj vs n)) (hb : s.heap.get? b = some (tupObj ws n2)) (hsz : vs.length = ws.length) (he : ∀ p ∈ vs.zip ws, EqI w A s p.1 p.2) {P : Fin → Shared → Prop}
    (h : ∀ h' tk, Ext s.heap h' → P (.done (.ret (.bool true))) { s with heap := h', toks := tk }) : wpAny (MG w) A (Builtin.«tuple.__eq__» ⟨[.ref l, .ref b], []⟩) P E s := by
  obtain ⟨hp, g, d, tk, os⟩ := s
  have f2 := AutoSeq1.sub_tuple_tuple
  wp_walk using wpAny_loadPart' hl, wpAny_loadPart' hb, wpAny_forIn_list _ (fun rest b s' => b.1 = none ∧ (∃ h' tk', s' = ⟨h', g, d, tk', os⟩ ∧ Ext hp h') ∧ (∀ p ∈ rest, p ∈ vs.zip ws)) _
  case turn =>
    rintro ⟨y, x⟩ rest b s' ⟨hb', ⟨h', tk', rfl, xt⟩, hz⟩
    refine wpAny_bind (he (y, x) (hz _ (List.mem_cons_self ..)) h' tk' xt _ _ fun h2 tk2 xt2 => ?_)
    wp_walk
    exact ⟨rfl, ⟨h2, tk2, rfl, xt.trans xt2⟩, fun p hp => hz p (List.mem_cons_of_mem _ hp)⟩
  case fin =>
    rintro ⟨b1, b2⟩ s' ⟨hb', ⟨h', tk', rfl, xt⟩, hz⟩
    simp only at hb'
    subst hb'
    wp_walk
    have e : (Builtin.Tuple.tupleCompareSizes .Eq vs.toArray.size ws.toArray.size) = .bool true := by simp [Builtin.Tuple.tupleCompareSizes, hsz]
    rw [e]
    exact h _ _ xt
  case h =>
    exact ⟨rfl, ⟨_, _, rfl, Ext.refl _⟩, fun p hp => by simpa using hp⟩
theorem tup_neG (hl : s.heap.get? l = some (tupObj vs n)) (hb : s.heap.get? b = some (tupObj ws n2)) (hsz : vs.length = ws.length) (he : ∀ p ∈ vs.zip ws, EqI w A s p.1 p.2) {P : Fin → Shared → Prop}
    (h : ∀ h' tk, Ext s.heap h' → P (.done (.ret (.bool false))) { s with heap := h', toks := tk }) : wpAny (MG w) A (Builtin.«tuple.__ne__» ⟨[.ref l, .ref b], []⟩) P E s := by
  obtain ⟨hp, g, d, tk, os⟩ := s
  have f2 := AutoSeq1.sub_tuple_tuple
  wp_walk using wpAny_loadPart' hl, wpAny_loadPart' hb, wpAny_forIn_list _ (fun rest b s' => b.1 = none ∧ (∃ h' tk', s' = ⟨h', g, d, tk', os⟩ ∧ Ext hp h') ∧ (∀ p ∈ rest, p ∈ vs.zip ws)) _
  case turn =>
    rintro ⟨y, x⟩ rest b s' ⟨hb', ⟨h', tk', rfl, xt⟩, hz⟩
    refine wpAny_bind (he (y, x) (hz _ (List.mem_cons_self ..)) h' tk' xt _ _ fun h2 tk2 xt2 => ?_)
    wp_walk
    exact ⟨rfl, ⟨h2, tk2, rfl, xt.trans xt2⟩, fun p hp => hz p (List.mem_cons_of_mem _ hp)⟩
  case fin =>
    rintro ⟨b1, b2⟩ s' ⟨hb', ⟨h', tk', rfl, xt⟩, hz⟩
    simp only at hb'
    subst hb'
    wp_walk
    have e : (Builtin.Tuple.tupleCompareSizes .NotEq vs.toArray.size ws.toArray.size) = .bool false := by simp [Builtin.Tuple.tupleCompareSizes, hsz]
    rw [e]
    exact h _ _ xt
  case h =>
    exact ⟨rfl, ⟨_, _, rfl, Ext.refl _⟩, fun p hp => by simpa using hp⟩

theorem lst_eq_loopG (hsz : vs.length = ws.length) (k : Nat) {R : Result → Shared → Prop} {hp₀ : Heap} {g : Array GenState} {d : Drawn} {os : OsState} (he : ∀ p ∈ vs.zip ws, EqI w A.in1 ⟨hp₀, g, d, 0, os⟩ p.1 p.2)
    (h : ∀ h' tk, Ext hp₀ h' → R (.ok (.ret (.bool true))) ⟨h', g, d, tk, os⟩) : ∀ (i : Nat), vs.length - i = k → ∀ (h1 : Heap) (tk : Nat), Ext hp₀ h1 → h1.get? l = some (lstObj vs n) → h1.get? b = some (lstObj ws n2) →
    wpAny (MG w) A.in1 (Builtin.«list.__eq__.loop» ⟨[.ref l, .ref b, rawInt i, rawInt 2], []⟩) (fun fin s' => match fin with | .done f => R (.ok f) s' | .again c' => c'.quiet = true ∧ codeAny (MG w) A c' R s') (fun e s' => R (.error e) s') ⟨h1, g, d, tk, os⟩ := by
  induction k with
  | zero =>
    intro i hk h1 tk xt hl hb
    wp_walk using wpAny_loadPart' hl, wpAny_loadPart' hb
    have hi1 : vs.toArray[((i : Nat) : Int).toNat]? = none := by simp; omega
    have hi2 : ws.toArray[((i : Nat) : Int).toNat]? = none := by simp; omega
    rw [hi1, hi2]
    wp_walk using wpAny_loadPart' hl, wpAny_loadPart' hb
    show R (.ok (.ret (.bool (vs.toArray.size == ws.toArray.size)))) _
    have e : (vs.toArray.size == ws.toArray.size) = true := by simp [hsz]
    rw [e]
    exact h _ _ xt
  | succ k ih =>
    intro i hk h1 tk xt hl hb
    wp_walk using wpAny_loadPart' hl, wpAny_loadPart' hb
    have hlt : i < vs.length := by omega
    have hlt2 : i < ws.length := by omega
    have hi1 : vs.toArray[((i : Nat) : Int).toNat]? = some vs[i] := by simp [hlt]
    have hi2 : ws.toArray[((i : Nat) : Int).toNat]? = some ws[i] := by simp [hlt2]
    have hc : ((i : Int) + 1) = ((i + 1 : Nat) : Int) := by push_cast; rfl
    rw [hi1, hi2]
    have hm : (vs[i], ws[i]) ∈ vs.zip ws := by
      rw [List.mem_iff_getElem]
      exact ⟨i, by rw [List.length_zip]; omega, by rw [List.getElem_zip]⟩
    refine wpAny_bind (he _ hm h1 tk xt _ _ fun h2 tk2 xt2 => ?_)
    wp_walk
    rw [hc]
    exact ⟨plainId_quiet plain_eq_loop _, codeAny_builtin entry_eq_loop (by
      rw [Around.under_plainId plain_eq_loop _]
      exact ih (i + 1) (by omega) h2 tk2 (xt.trans xt2) (xt2 _ _ hl) (xt2 _ _ hb))⟩
theorem lst_eq_G (hl : s.heap.get? l = some (lstObj vs n)) (hb : s.heap.get? b = some (lstObj ws n2)) (hsz : vs.length = ws.length) (he : ∀ p ∈ vs.zip ws, EqI w A.in1 s p.1 p.2) {R : Result → Shared → Prop}
    (h : ∀ h' tk, Ext s.heap h' → R (.ok (.ret (.bool true))) { s with heap := h', toks := tk }) :
    wpAny (MG w) A.in1 (Builtin.«list.__eq__» ⟨[.ref l, .ref b], []⟩) (fun fin s' => match fin with | .done f => R (.ok f) s' | .again c' => c'.quiet = true ∧ codeAny (MG w) A c' R s') (fun e s' => R (.error e) s') s := by
  obtain ⟨hp, g, d, tk, os⟩ := s
  have f3 := AutoSeq1.sub_list_list
  have hne : ¬ (vs.toArray.size != ws.toArray.size) = true := by simp [hsz]
  wp_walk using wpAny_loadPart' hl, wpAny_loadPart' hb
  exact ⟨plainId_quiet plain_eq_loop _, codeAny_builtin entry_eq_loop (by
    rw [Around.under_plainId plain_eq_loop _]
    exact lst_eq_loopG hsz _ (fun p hp => he p hp) h 0 rfl hp tk (Ext.refl _) hl hb)⟩

theorem lst_ne_loopG (hsz : vs.length = ws.length) (k : Nat) {R : Result → Shared → Prop} {hp₀ : Heap} {g : Array GenState} {d : Drawn} {os : OsState} (he : ∀ p ∈ vs.zip ws, EqI w A.in1 ⟨hp₀, g, d, 0, os⟩ p.1 p.2)
    (h : ∀ h' tk, Ext hp₀ h' → R (.ok (.ret (.bool false))) ⟨h', g, d, tk, os⟩) : ∀ (i : Nat), vs.length - i = k → ∀ (h1 : Heap) (tk : Nat), Ext hp₀ h1 → h1.get? l = some (lstObj vs n) → h1.get? b = some (lstObj ws n2) →
    wpAny (MG w) A.in1 (Builtin.«list.__eq__.loop» ⟨[.ref l, .ref b, rawInt i, rawInt 3], []⟩) (fun fin s' => match fin with | .done f => R (.ok f) s' | .again c' => c'.quiet = true ∧ codeAny (MG w) A c' R s') (fun e s' => R (.error e) s') ⟨h1, g, d, tk, os⟩ := by
  induction k with
  | zero =>
    intro i hk h1 tk xt hl hb
    wp_walk using wpAny_loadPart' hl, wpAny_loadPart' hb
    have hi1 : vs.toArray[((i : Nat) : Int).toNat]? = none := by simp; omega
    have hi2 : ws.toArray[((i : Nat) : Int).toNat]? = none := by simp; omega
    rw [hi1, hi2]
    wp_walk using wpAny_loadPart' hl, wpAny_loadPart' hb
    show R (.ok (.ret (.bool (vs.toArray.size != ws.toArray.size)))) _
    have e : (vs.toArray.size != ws.toArray.size) = false := by simp [hsz]
    rw [e]
    exact h _ _ xt
  | succ k ih =>
    intro i hk h1 tk xt hl hb
    wp_walk using wpAny_loadPart' hl, wpAny_loadPart' hb
    have hlt : i < vs.length := by omega
    have hlt2 : i < ws.length := by omega
    have hi1 : vs.toArray[((i : Nat) : Int).toNat]? = some vs[i] := by simp [hlt]
    have hi2 : ws.toArray[((i : Nat) : Int).toNat]? = some ws[i] := by simp [hlt2]
    have hc : ((i : Int) + 1) = ((i + 1 : Nat) : Int) := by push_cast; rfl
    rw [hi1, hi2]
    have hm : (vs[i], ws[i]) ∈ vs.zip ws := by
      rw [List.mem_iff_getElem]
      exact ⟨i, by rw [List.length_zip]; omega, by rw [List.getElem_zip]⟩
    refine wpAny_bind (he _ hm h1 tk xt _ _ fun h2 tk2 xt2 => ?_)
    wp_walk
    rw [hc]
    exact ⟨plainId_quiet plain_eq_loop _, codeAny_builtin entry_eq_loop (by
      rw [Around.under_plainId plain_eq_loop _]
      exact ih (i + 1) (by omega) h2 tk2 (xt.trans xt2) (xt2 _ _ hl) (xt2 _ _ hb))⟩
theorem lst_ne_G (hl : s.heap.get? l = some (lstObj vs n)) (hb : s.heap.get? b = some (lstObj ws n2)) (hsz : vs.length = ws.length) (he : ∀ p ∈ vs.zip ws, EqI w A.in1 s p.1 p.2) {R : Result → Shared → Prop}
    (h : ∀ h' tk, Ext s.heap h' → R (.ok (.ret (.bool false))) { s with heap := h', toks := tk }) :
    wpAny (MG w) A.in1 (Builtin.«list.__ne__» ⟨[.ref l, .ref b], []⟩) (fun fin s' => match fin with | .done f => R (.ok f) s' | .again c' => c'.quiet = true ∧ codeAny (MG w) A c' R s') (fun e s' => R (.error e) s') s := by
  obtain ⟨hp, g, d, tk, os⟩ := s
  have f3 := AutoSeq1.sub_list_list
  have hne : ¬ (vs.toArray.size != ws.toArray.size) = true := by simp [hsz]
  wp_walk using wpAny_loadPart' hl, wpAny_loadPart' hb
  exact ⟨plainId_quiet plain_eq_loop _, codeAny_builtin entry_eq_loop (by
    rw [Around.under_plainId plain_eq_loop _]
    exact lst_ne_loopG hsz _ (fun p hp => he p hp) h 0 rfl hp tk (Ext.refl _) hl hb)⟩
end
end Mine
end
theorem Mine.flush18 : True ∧ True := by
  w_top off
  try (fail_if_success walk1)
  exact ⟨trivial, trivial⟩
section
open PySem PySem.W PyProof.Rows PySem.Spec PySem.Calls PySem.W.X
set_option maxRecDepth 100000
set_option maxHeartbeats 2000000
namespace Mine
section
variable {w : World} {A : Around} {s : Shared} {l b : Addr} {t0 t1 u0 u1 : Tok} {v1 v2 y1 y2 : Value} {n m : Nat} {E : Value → Shared → Prop}
theorem dct_keys {prog : Program} {w : World} (t0 t1 : Tok) (v u : Value) : KeysOf (intKind prog w) (#[⟨0, .int 0 t0, v⟩, ⟨1, .int 1 t1, u⟩] : Array DictEntry) := by
  intro e he
  simp only [List.mem_toArray, List.mem_cons, List.not_mem_nil, or_false] at he
  rcases he with rfl | rfl
  · exact ⟨0, intKind_is _ _ _ _, by show (0 : Int) = PySem.hashInt 0; decide +kernel⟩
  · exact ⟨1, intKind_is _ _ _ _, by show (1 : Int) = PySem.hashInt 1; decide +kernel⟩
theorem find0 : Array.findIdx? (fun e => (intKind PySem.Challenge.rw_fe0177_01.prog w).is 0 e.key) (#[⟨0, .int 0 u0, y1⟩, ⟨1, .int 1 u1, y2⟩] : Array DictEntry) = some 0 := by simp [List.findIdx?_cons, intKind, Value.isInt]
theorem find1 : Array.findIdx? (fun e => (intKind PySem.Challenge.rw_fe0177_01.prog w).is 1 e.key) (#[⟨0, .int 0 u0, y1⟩, ⟨1, .int 1 u1, y2⟩] : Array DictEntry) = some 1 := by simp [List.findIdx?_cons, intKind, Value.isInt]
theorem dct_pairsG {nm : String} (hl : s.heap.get? l = some (dctObj t0 t1 v1 v2 n)) (hb : s.heap.get? b = some (dctObj u0 u1 y1 y2 m)) (ml : (l == sysModules) = false) (mb : (b == sysModules) = false)
    (e1 : EqI w A s v1 y1) (e2 : EqI w A s v2 y2) {Q : Bool → Shared → Prop} (h : ∀ h' tk, Ext s.heap h' → Q true { s with heap := h', toks := tk }) : wpAny (MG w) A (Builtin.Dict.samePairs nm l b) Q E s := by
  obtain ⟨hp, g, d, tk, os⟩ := s
  unfold Builtin.Dict.samePairs Builtin.Dict.showsAll
  rw [if_neg (show ¬ (l == sysModules) = true by rw [ml]; exact Bool.false_ne_true), if_neg (show ¬ (b == sysModules) = true by rw [mb]; exact Bool.false_ne_true)]
  refine wpAny_bind (wpAny_pure (wpAny_bind (wpAny_pure ?_)))
  refine wpAny_bind (wpAny_dictEntries hl rfl ?_)
  dsimp only
  refine wpAny_bind (wpAny_dictEntries hb rfl ?_)
  rw [if_neg (by simp)]
  refine wpAny_bind (wpAny_dictEpoch hl rfl ?_)
  refine wpAny_bind ?_
  rw [Std.Legacy.Range.forIn_eq_forIn_range']
  simp only [Std.Legacy.Range.size, Nat.sub_zero, Nat.add_sub_cancel, Nat.div_one]
  refine wpAny_forIn_list _ (fun rest q s' => q = (none, ()) ∧ (∃ h' tk', s' = ⟨h', g, d, tk', os⟩ ∧ Ext hp h') ∧ (rest = [0, 1] ∨ rest = [1] ∨ rest = [])) _ ?_ ?_ _ _ ⟨rfl, ⟨_, _, rfl, Ext.refl _⟩, .inl rfl⟩
  · rintro x rest q s' ⟨rfl, ⟨h', tk', rfl, xt⟩, hr⟩
    have hl' := xt _ _ hl
    have hb' := xt _ _ hb
    rcases hr with hr | hr | hr
    · injection hr with hx hrest
      subst hx hrest
      refine wpAny_bind (wpAny_dictEntries hl' rfl ?_)
      show wpAny _ _ (holding [.int 0 t0, v1] _ >>= _) _ _ _
      refine wpAny_bind (wpAny_holding (wpAny_bind ?_))
      refine wpAny_dictFind_of (knd := intKind PySem.Challenge.rw_fe0177_01.prog w) (k := 0) (intKind_is _ _ _ _) hb' rfl (dct_keys _ _ _ _) ?_
      rw [find0]
      refine wpAny_bind (wpAny_dictEntries hb' rfl ?_)
      refine wpAny_holding (e1 h' tk' xt _ _ fun h2 tk2 xt2 => ?_)
      show wpAny _ _ (if (!true) = true then _ else _) _ _ _
      rw [if_neg (by decide)]
      refine wpAny_bind (wpAny_dictEpoch (xt2 _ _ hl') rfl ?_)
      rw [if_neg (by simp)]
      exact wpAny_pure ⟨rfl, ⟨_, _, rfl, xt.trans xt2⟩, .inr (.inl rfl)⟩
    · injection hr with hx hrest
      subst hx hrest
      refine wpAny_bind (wpAny_dictEntries hl' rfl ?_)
      show wpAny _ _ (holding [.int 1 t1, v2] _ >>= _) _ _ _
      refine wpAny_bind (wpAny_holding (wpAny_bind ?_))
      refine wpAny_dictFind_of (knd := intKind PySem.Challenge.rw_fe0177_01.prog w) (k := 1) (intKind_is _ _ _ _) hb' rfl (dct_keys _ _ _ _) ?_
      rw [find1]
      refine wpAny_bind (wpAny_dictEntries hb' rfl ?_)
      refine wpAny_holding (e2 h' tk' xt _ _ fun h2 tk2 xt2 => ?_)
      show wpAny _ _ (if (!true) = true then _ else _) _ _ _
      rw [if_neg (by decide)]
      refine wpAny_bind (wpAny_dictEpoch (xt2 _ _ hl') rfl ?_)
      rw [if_neg (by simp)]
      exact wpAny_pure ⟨rfl, ⟨_, _, rfl, xt.trans xt2⟩, .inr (.inr rfl)⟩
    · cases hr
  · rintro q s' ⟨rfl, ⟨h', tk', rfl, xt⟩, _⟩
    exact wpAny_pure (h _ _ xt)
theorem dct_eqG {op : CmpOp} (hop : op = .Eq ∨ op = .NotEq) (hl : s.heap.get? l = some (dctObj t0 t1 v1 v2 n)) (hb : s.heap.get? b = some (dctObj u0 u1 y1 y2 m)) (ml : (l == sysModules) = false) (mb : (b == sysModules) = false) (hu : A.units < cLine)
    (e1 : EqI w A.in1 s v1 y1) (e2 : EqI w A.in1 s v2 y2) {Q : Value → Shared → Prop} (h : ∀ h' tk, Ext s.heap h' → Q (.bool (op == .Eq)) { s with heap := h', toks := tk }) : wpAny (MG w) A (richCompare op (.ref l) (.ref b)) Q E s := by
  have ta : s.TypeIs (.ref l) "dict" := ⟨_, hl, rfl⟩
  have tb : s.TypeIs (.ref b) "dict" := ⟨_, hb, rfl⟩
  rcases hop with rfl | rfl
  · refine wpAny_richCompare_same_room (op := .Eq) ta tb PySem.F.slot_dict_eq (wpAny_call_entry PySem.F.slot_dict_eq ta PySem.F.entry_dict_eq ?_ (PySem.F.args_dict_eq_2 _ _)) hu
    show wpAny _ _ (Builtin.Dict.dictSlotArgs "__eq__" ⟨[.ref l, .ref b], []⟩ >>= _) _ _ s
    refine wpAny_bind ?_
    unfold Builtin.Dict.dictSlotArgs
    refine wpAny_bind (wpAny_notOrdered_dict ta ?_)
    show wpAny _ _ (pure (Value.ref l, Value.ref b)) _ _ s
    refine wpAny_pure ?_
    refine wpAny_bind (wpAny_isInstance (T := "dict") tb PySem.F.sub_dict_dict ?_)
    simp only [Bool.not_true, Bool.false_eq_true, if_false]
    refine wpAny_bind (wpAny_pure (wpAny_bind (wpAny_pure ?_)))
    refine wpAny_bind (dct_pairsG hl hb ml mb e1 e2 fun h' tk xt => ?_)
    refine wpAny_pure ⟨_, rfl, ?_, ?_⟩
    · exact fun x => nomatch x
    · exact h _ _ xt
  · refine wpAny_richCompare_same_room (op := .NotEq) ta tb PySem.F.slot_dict_ne (wpAny_call_entry PySem.F.slot_dict_ne ta PySem.F.entry_dict_ne ?_ (PySem.F.args_dict_ne_2 _ _)) hu
    show wpAny _ _ (Builtin.Dict.dictSlotArgs "__ne__" ⟨[.ref l, .ref b], []⟩ >>= _) _ _ s
    refine wpAny_bind ?_
    unfold Builtin.Dict.dictSlotArgs
    refine wpAny_bind (wpAny_notOrdered_dict ta ?_)
    show wpAny _ _ (pure (Value.ref l, Value.ref b)) _ _ s
    refine wpAny_pure ?_
    refine wpAny_bind (wpAny_isInstance (T := "dict") tb PySem.F.sub_dict_dict ?_)
    simp only [Bool.not_true, Bool.false_eq_true, if_false]
    refine wpAny_bind (wpAny_pure (wpAny_bind (wpAny_pure ?_)))
    refine wpAny_bind (dct_pairsG hl hb ml mb e1 e2 fun h' tk xt => ?_)
    refine wpAny_pure ⟨_, rfl, ?_, ?_⟩
    · exact fun x => nomatch x
    · exact h _ _ xt
end
end Mine
end
theorem Mine.flush19 : True ∧ True := by
  w_top off
  try (fail_if_success walk1)
  exact ⟨trivial, trivial⟩
section
open PySem PySem.W PyProof.Rows PySem.Spec PySem.Calls PySem.W.X
set_option maxRecDepth 100000
set_option maxHeartbeats 2000000
namespace Mine
noncomputable def hgt : Tm → Nat
  | .var _ => 0
  | .int _ => 0
  | .tup2 a b => max (hgt a) (hgt b) + 1
  | .tup3 a b => max (hgt a) (hgt b) + 1
  | .lst a b => max (hgt a) (hgt b) + 1
  | .dct a b => max (hgt a) (hgt b) + 1
theorem Fits.in1 {A : Around} {n : Nat} (f : Fits A (n + 1)) : Fits A.in1 n := by
  have h2 := f.depth
  have h3 := f.units
  refine ⟨f.handled, ?_, ?_⟩
  · show A.depth + n ≤ 900
    omega
  · show A.units + 1 + 20 * n ≤ 9000
    omega
theorem At.ext' {hb h h' : Heap} {Av : Addr → Prop} (x : Ext h h') {v : Value} {t : Tm} (r : R (At hb h Av) v t) : R (At hb h' Av) v t := r.mono fun _ _ y => At.ext x y
theorem lst_cmpG {w : World} {A : Around} {s : Shared} {l b : Addr} {vs ws : List Value} {n n2 : Nat} {E : Value → Shared → Prop} {op : CmpOp} (hop : op = .Eq ∨ op = .NotEq) (hl : s.heap.get? l = some (lstObj vs n)) (hb : s.heap.get? b = some (lstObj ws n2)) (hsz : vs.length = ws.length) (hu : A.units < cLine)
    (he : ∀ p ∈ vs.zip ws, EqI w A.in1 s p.1 p.2) {Q : Value → Shared → Prop} (h : ∀ h' tk, Ext s.heap h' → Q (.bool (op == .Eq)) { s with heap := h', toks := tk }) : wpAny (MG w) A (richCompare op (.ref l) (.ref b)) Q E s := by
  have ta : s.TypeIs (.ref l) "list" := ⟨_, hl, rfl⟩
  have tb : s.TypeIs (.ref b) "list" := ⟨_, hb, rfl⟩
  have ne : ∀ x : Bool, Value.bool x ≠ Value.notImplemented := fun x e => nomatch e
  rcases hop with rfl | rfl
  · exact wpAny_richCompare_same_room (op := .Eq) ta tb F.slot_list_eq (wpAny_call (codeAny_call_builtin F.slot_list_eq.plain F.entry_list_eq (F.slot_list_eq.check _ _ _ _ _ _ _ _ ta (F.args_list_eq_2 _ _) (lst_eq_G hl hb hsz he (R := wants (fun v s' => v ≠ .notImplemented ∧ Q v s') E) fun h' tk xt => ⟨ne _, h _ _ xt⟩)))) hu
  · exact wpAny_richCompare_same_room (op := .NotEq) ta tb F.slot_list_ne (wpAny_call (codeAny_call_builtin F.slot_list_ne.plain F.entry_list_ne (F.slot_list_ne.check _ _ _ _ _ _ _ _ ta (F.args_list_ne_2 _ _) (lst_ne_G hl hb hsz he (R := wants (fun v s' => v ≠ .notImplemented ∧ Q v s') E) fun h' tk xt => ⟨ne _, h _ _ xt⟩)))) hu
/-- equal data compare equal -/
def CmpR (w : World) (hb : Heap) (t : Tm) : Prop := ∀ (A : Around) (s : Shared) (Av : Addr → Prop) (v y : Value) (op : CmpOp), op = .Eq ∨ op = .NotEq → Fits A (5 + hgt t) → Ext hb s.heap → (∀ a, Av a → ∃ o, s.heap.get? a = some o) → R (At hb s.heap Av) v t → R (At hb s.heap Av) y t →
  ∀ (Q E : Value → Shared → Prop), (∀ h' tk, Ext s.heap h' → Q (.bool (op == .Eq)) { s with heap := h', toks := tk }) → wpAny (MG w) A (richCompare op v y) Q E s
theorem CmpR.item {w : World} {hb : Heap} {t : Tm} (C : CmpR w hb t) {A : Around} {s : Shared} {Av : Addr → Prop} {v y : Value} (f : Fits A (5 + hgt t)) (X : Ext hb s.heap) (hav : ∀ a, Av a → ∃ o, s.heap.get? a = some o) (r : R (At hb s.heap Av) v t) (r2 : R (At hb s.heap Av) y t) : EqI w A s v y := by
  intro h1 tk1 xt Q E hQ
  unfold eqBool
  refine wpAny_holding ?_
  by_cases e : (v == y) = true
  · rw [if_pos e]
    exact wpAny_bind (wpAny_rule (wpAny_pure (hQ _ _ (Ext.refl _))))
  · rw [if_neg e]
    have fin : wpAny (MG w) A (richCompare .Eq v y >>= fun r => truthOfDropped r) Q E { s with heap := h1, toks := tk1 } := by
      refine wpAny_bind (C A { s with heap := h1, toks := tk1 } Av v y .Eq (.inl rfl) f (X.trans xt) (fun a ha => by obtain ⟨o, e⟩ := hav a ha; exact ⟨o, xt _ _ e⟩) (At.ext' xt r) (At.ext' xt r2) _ _ fun h2 tk2 xt2 => ?_)
      exact wpAny_truthy_bool (hQ _ _ xt2)
    cases r <;> cases r2 <;> exact fin
theorem cmp_R {w : World} {hb : Heap} (B : Base w hb) (t : Tm) : CmpR w hb t := by
  induction t with
  | int i =>
    intro A s Av v y op hop f X hav r r2 Q E hQ
    cases r
    cases r2
    rcases hop with rfl | rfl
    · exact wpAny_eq_int (by simpa using hQ _ _ (Ext.refl _))
    · exact IsLeap.wpAny_ne_int (by have z := hQ _ s.toks (Ext.refl s.heap); rw [show (i != i) = false by simp]; exact z)
  | var k =>
    intro A s Av v y op hop f X hav r r2 Q E hQ
    cases r with
    | var a b =>
    cases r2 with
    | var c d =>
    rcases hop with rfl | rfl
    · exact cmp_vv B (f.less (by omega)) X hav (.var a b) (.var c d) hQ
    · exact ne_vv B (f.less (by omega)) X (.var a b) (.var c d) hQ
  | tup2 a b iha ihb =>
    intro A s Av v y op hop f X hav r r2 Q E hQ
    simp only [hgt] at f
    cases r with
    | @tup2 l v1 v2 n _ _ hl p1 p2 =>
    cases r2 with
    | @tup2 m y1 y2 n2 _ _ hm q1 q2 =>
    have fi : Fits A.in1 (5 + max (hgt a) (hgt b)) := Fits.in1 (f.less (by omega))
    have e1 : EqI w A.in1 s v1 y1 := iha.item (fi.less (by omega)) X hav p1 q1
    have e2 : EqI w A.in1 s v2 y2 := ihb.item (fi.less (by omega)) X hav p2 q2
    have he : ∀ p ∈ [v1, v2].zip [y1, y2], EqI w A.in1 s p.1 p.2 := by
      intro p hp
      simp only [List.zip_cons_cons, List.zip_nil_right, List.mem_cons, List.not_mem_nil, or_false] at hp
      rcases hp with rfl | rfl
      · exact e1
      · exact e2
    rcases hop with rfl | rfl
    · refine wpAny_richCompare_same_room (op := .Eq) ⟨_, hl.1, rfl⟩ ⟨_, hm.1, rfl⟩ F.slot_tuple_eq (wpAny_call_entry F.slot_tuple_eq ⟨_, hl.1, rfl⟩ F.entry_tuple_eq (tup_eqG hl.1 hm.1 rfl he fun h' tk xt => ⟨_, rfl, ?_, hQ _ _ xt⟩) (F.args_tuple_eq_2 _ _)) f.cl
      exact fun x => nomatch x
    · refine wpAny_richCompare_same_room (op := .NotEq) ⟨_, hl.1, rfl⟩ ⟨_, hm.1, rfl⟩ F.slot_tuple_ne (wpAny_call_entry F.slot_tuple_ne ⟨_, hl.1, rfl⟩ F.entry_tuple_ne (tup_neG hl.1 hm.1 rfl he fun h' tk xt => ⟨_, rfl, ?_, hQ _ _ xt⟩) (F.args_tuple_ne_2 _ _)) f.cl
      exact fun x => nomatch x
  | tup3 a b iha ihb =>
    intro A s Av v y op hop f X hav r r2 Q E hQ
    simp only [hgt] at f
    cases r with
    | @tup3 l v1 v2 z n _ _ hl p1 p2 =>
    cases r2 with
    | @tup3 m y1 y2 z2 n2 _ _ hm q1 q2 =>
    have fi : Fits A.in1 (5 + max (hgt a) (hgt b)) := Fits.in1 (f.less (by omega))
    have e1 : EqI w A.in1 s v1 y1 := iha.item (fi.less (by omega)) X hav p1 q1
    have e2 : EqI w A.in1 s v2 y2 := ihb.item (fi.less (by omega)) X hav p2 q2
    have e3 : EqI w A.in1 s (.int 0 z) (.int 0 z2) := fun h1 tk1 xt Q E hQ => wpAny_eqBool_int (by simpa using hQ _ _ (Ext.refl _))
    have he : ∀ p ∈ [v1, .int 0 z, v2].zip [y1, .int 0 z2, y2], EqI w A.in1 s p.1 p.2 := by
      intro p hp
      simp only [List.zip_cons_cons, List.zip_nil_right, List.mem_cons, List.not_mem_nil, or_false] at hp
      rcases hp with rfl | rfl | rfl
      · exact e1
      · exact e3
      · exact e2
    rcases hop with rfl | rfl
    · refine wpAny_richCompare_same_room (op := .Eq) ⟨_, hl.1, rfl⟩ ⟨_, hm.1, rfl⟩ F.slot_tuple_eq (wpAny_call_entry F.slot_tuple_eq ⟨_, hl.1, rfl⟩ F.entry_tuple_eq (tup_eqG hl.1 hm.1 rfl he fun h' tk xt => ⟨_, rfl, ?_, hQ _ _ xt⟩) (F.args_tuple_eq_2 _ _)) f.cl
      exact fun x => nomatch x
    · refine wpAny_richCompare_same_room (op := .NotEq) ⟨_, hl.1, rfl⟩ ⟨_, hm.1, rfl⟩ F.slot_tuple_ne (wpAny_call_entry F.slot_tuple_ne ⟨_, hl.1, rfl⟩ F.entry_tuple_ne (tup_neG hl.1 hm.1 rfl he fun h' tk xt => ⟨_, rfl, ?_, hQ _ _ xt⟩) (F.args_tuple_ne_2 _ _)) f.cl
      exact fun x => nomatch x
  | lst a b iha ihb =>
    intro A s Av v y op hop f X hav r r2 Q E hQ
    simp only [hgt] at f
    cases r with
    | @lst l v1 v2 n _ _ hl p1 p2 =>
    cases r2 with
    | @lst m y1 y2 n2 _ _ hm q1 q2 =>
    have fi : Fits A.in1 (5 + max (hgt a) (hgt b)) := Fits.in1 (f.less (by omega))
    have e1 : EqI w A.in1 s v1 y1 := iha.item (fi.less (by omega)) X hav p1 q1
    have e2 : EqI w A.in1 s v2 y2 := ihb.item (fi.less (by omega)) X hav p2 q2
    have he : ∀ p ∈ [v1, v2].zip [y1, y2], EqI w A.in1 s p.1 p.2 := by
      intro p hp
      simp only [List.zip_cons_cons, List.zip_nil_right, List.mem_cons, List.not_mem_nil, or_false] at hp
      rcases hp with rfl | rfl
      · exact e1
      · exact e2
    exact lst_cmpG hop hl.1 hm.1 rfl f.cl he hQ
  | dct a b iha ihb =>
    intro A s Av v y op hop f X hav r r2 Q E hQ
    simp only [hgt] at f
    cases r with
    | @dct l t0 t1 v1 v2 n _ _ hl p1 p2 =>
    cases r2 with
    | @dct m u0 u1 y1 y2 n2 _ _ hm q1 q2 =>
    have fi : Fits A.in1 (5 + max (hgt a) (hgt b)) := Fits.in1 (f.less (by omega))
    have e1 : EqI w A.in1 s v1 y1 := iha.item (fi.less (by omega)) X hav p1 q1
    have e2 : EqI w A.in1 s v2 y2 := ihb.item (fi.less (by omega)) X hav p2 q2
    exact dct_eqG hop hl.1 hm.1 (not_mods B hl.2.1) (not_mods B hm.2.1) f.cl e1 e2 hQ
end Mine
end
theorem Mine.flush20 : True ∧ True := by
  w_top off
  try (fail_if_success walk1)
  exact ⟨trivial, trivial⟩
section
open PySem PySem.W PyProof.Rows PySem.Spec PySem.Calls PySem.W.X
set_option maxRecDepth 100000
set_option maxHeartbeats 2000000
namespace Mine
theorem filter_none {p : Nat → Bool} : ∀ n, (∀ i, i < n → p i = false) → (List.range n).filter p = []
  | 0, _ => rfl
  | n + 1, h => by
    rw [List.range_succ, List.filter_append, filter_none n fun i hi => h i (by omega)]
    simp [h n (by omega)]
theorem filter_one {p : Nat → Bool} {j : Nat} : ∀ n, j < n → p j = true → (∀ i, i < n → i ≠ j → p i = false) → (List.range n).filter p = [j]
  | 0, h, _, _ => absurd h (Nat.not_lt_zero _)
  | n + 1, hj, hp, h => by
    rw [List.range_succ, List.filter_append]
    by_cases e : j = n
    · subst e
      rw [filter_none j fun i hi => h i (by omega) (by omega)]
      simp [hp]
    · rw [filter_one n (by omega) hp fun i hi => h i (by omega)]
      simp [h n (by omega) (Ne.symm e)]
theorem const_175 (w : World) : peek (hd.heap_39 w.params) ⟨PySem.Challenge.rw_fe0177_01.prog, w.params⟩ (answersAConstant 175) = some false := by kernel_rfl
section
variable {w : World} {hb : Heap} {A : Around} {s : Shared} {d x : Addr} {E : Value → Shared → Prop}
theorem quiet_var {Q : Bool → Shared → Prop} {o : Obj} (KX : (hd.heap_39 w.params).In s.heap) (ho : s.heap.get? x = some o) (hc : o.cls = .ref 185) (h : Q false s) : wpAny (MG w) A (eqIsQuiet 8 (.ref x)) Q E s := by
  unfold eqIsQuiet specialOf
  refine wpAny_bind (wpAny_bind (wpAny_typeOf_ref ho ?_))
  rw [hc]
  refine (looks_findIn KX (find_eq w)).here ?_
  exact (Looks.of_peek (M := MG w) KX (const_175 w)).here h
theorem tells_any {key : Value} {Q : Bool → Shared → Prop} {o : Obj} (KX : (hd.heap_39 w.params).In s.heap) (ho : s.heap.get? x = some o) (hc : o.cls = .ref 185) (hk : (∃ i t, key = .int i t) ∨ ∃ a o', key = .ref a ∧ s.heap.get? a = some o' ∧ o'.cls = .ref 185) (h : Q true s) : wpAny (MG w) A (tableMayTell key [.ref x]) Q E s := by
  unfold tableMayTell
  rw [if_neg (show ¬ [Value.ref x].isEmpty = true by simp)]
  rcases hk with ⟨i, t, rfl⟩ | ⟨a, o', rfl, ha, hc'⟩
  · refine wpAny_bind (m := eqIsQuiet 8 (.int i t)) (wpAny_pure ?_)
    simp only [Bool.not_true, Bool.false_eq_true, if_false]
    refine wpAny_bind ?_
    rw [List.forIn_cons]
    refine wpAny_bind (wpAny_bind (quiet_var KX ho hc ?_))
    simp only [Bool.not_false, if_true]
    exact wpAny_pure (wpAny_pure (wpAny_pure h))
  · refine wpAny_bind (quiet_var KX ha hc' ?_)
    simp only [Bool.not_false, if_true]
    exact wpAny_pure h
theorem placeAt {es : List DictEntry} {i : Nat} {h : Int} : ((es.toArray[i]?.map (·.hash)) == some h) = (match es[i]? with | some e => e.hash == h | none => false) := by
  rw [List.getElem?_toArray]
  cases es[i]? with
  | none => rfl
  | some e => rfl
/-- no entry of this hash -/
theorem find_none {key : Value} {h : Int} {es : List DictEntry} {ep : Nat} {Q : Option Nat → Shared → Prop} (hd : s.heap.get? d = some (dctO es.toArray ep)) (hno : ∀ e ∈ es, e.hash ≠ h) (hk : (∃ i t, key = .int i t) ∨ ∃ a, key = .ref a ∧ ∀ e ∈ es, e.key ≠ .ref a) (hq : Q none s) :
    wpAny (MG w) A (dictFind d key h) Q E s := by
  have hp : placesWithHash es.toArray.size (fun i => es.toArray[i]?.map (·.hash)) h = [] := by
    refine filter_none _ fun i hi => ?_
    rw [placeAt]
    cases he : es[i]? with
    | none => rfl
    | some e => simpa using hno e (List.mem_of_getElem? he)
  unfold dictFind
  refine wpAny_holding ?_
  refine wpAny_bind (wpAny_dictEntries hd rfl ?_)
  dsimp only
  rw [hp]
  rcases hk with ⟨i, t, rfl⟩ | ⟨a, rfl, hne⟩
  · rw [if_pos (by rfl)]
    unfold dictWalkPlain
    refine wpAny_bind ?_
    rw [List.forIn_nil]
    exact wpAny_pure (wpAny_pure hq)
  · rw [if_neg (by simp [carriedByValue])]
    rw [if_neg (by rw [List.any_toArray, List.any_eq_true]; rintro ⟨e, he, hc⟩; simp only [Bool.and_eq_true, beq_iff_eq] at hc; exact hne e he hc.1)]
    rw [if_neg (by simp)]
    refine wpAny_bind (m := tableMayTell (.ref a) []) ?_
    unfold tableMayTell
    rw [if_pos (by rfl)]
    refine wpAny_pure ?_
    rw [if_neg (by simp)]
    refine wpAny_bind ?_
    rw [List.forIn_nil]
    exact wpAny_pure (wpAny_pure hq)
/-- one entry of this hash, keyed by a Var -/
theorem find_some {key : Value} {h : Int} {es : List DictEntry} {ep j : Nat} {e : DictEntry} {x : Addr} {o : Obj} {b : Bool} {Q : Option Nat → Shared → Prop} (hdd : s.heap.get? d = some (dctO es.toArray ep)) (hj : es[j]? = some e) (hh : e.hash = h) (ho : ∀ i e', es[i]? = some e' → i ≠ j → e'.hash ≠ h)
    (h0 : 0 ≤ h) (h32 : h < 32) (hx : e.key = .ref x) (KX : (hd.heap_39 w.params).In s.heap) (hox : s.heap.get? x = some o) (hc : o.cls = .ref 185) (hk : (∃ i t, key = .int i t) ∨ ∃ a o', key = .ref a ∧ s.heap.get? a = some o' ∧ o'.cls = .ref 185) (hka : ∀ e' ∈ es, e'.key = key → e'.hash = h)
    (heq : ∀ (Q : Bool → Shared → Prop) (E : Value → Shared → Prop), (∀ h' tk, Ext s.heap h' → Q b { s with heap := h', toks := tk }) → wpAny (MG w) A (eqBool (.ref x) key) Q E s)
    (hq : ∀ h' tk, Ext s.heap h' → Q (if b then some j else none) { s with heap := h', toks := tk }) :
    wpAny (MG w) A (dictFind d key h) Q E s := by
  have hjl : j < es.length := (List.getElem?_eq_some_iff.mp hj).1
  have hp : placesWithHash es.toArray.size (fun i => es.toArray[i]?.map (·.hash)) h = [j] := by
    refine filter_one _ (by simpa using hjl) ?_ fun i hi hij => ?_
    · rw [placeAt, hj]; simpa using hh
    · rw [placeAt]
      cases he : es[i]? with
      | none => rfl
      | some e' => simpa using ho i e' he hij
  have hje : es.toArray[j]? = some e := by rw [List.getElem?_toArray]; exact hj
  unfold dictFind
  refine wpAny_holding ?_
  refine wpAny_bind (wpAny_dictEntries hdd rfl ?_)
  dsimp only
  rw [hp]
  have hst : [j].filterMap (fun i => es.toArray[i]?.map (·.key)) = [.ref x] := by simp [hj, hx]
  rw [hst]
  rcases hk with ⟨i, t, rfl⟩ | ⟨a, o', rfl, ha, hc'⟩
  · dsimp only
    rw [if_neg (by simp [carriedByValue])]
    rw [if_neg (by simp)]
    refine wpAny_bind (tells_any KX hox hc (.inl ⟨i, t, rfl⟩) ?_)
    rw [if_neg (by simp)]
    refine wpAny_bind ?_
    rw [List.forIn_cons]
    refine wpAny_bind ?_
    rw [hje]
    dsimp only
    rw [if_pos (by simpa using hh)]
    refine wpAny_bind (wpAny_dictEpoch hdd rfl ?_)
    refine wpAny_bind ?_
    rw [hx]
    refine heq _ _ fun h' tk xt => ?_
    refine wpAny_bind (wpAny_dictEpoch (xt _ _ hdd) rfl ?_)
    rw [if_neg (by simp)]
    cases b with
    | false =>
      simp only [Bool.false_eq_true, if_false]
      refine wpAny_bind (wpAny_rule ?_)
      rw [if_neg (by rw [decide_eq_true h0, decide_eq_true h32]; simp)]
      refine wpAny_pure ?_
      dsimp only
      rw [List.forIn_nil]
      exact wpAny_pure (wpAny_pure (hq _ _ xt))
    | true =>
      rw [if_pos rfl]
      refine wpAny_bind (wpAny_rule ?_)
      rw [if_pos (show [Value.ref x].length < 2 by simp)]
      exact wpAny_pure (wpAny_pure (wpAny_pure (hq _ _ xt)))
  · dsimp only
    rw [if_neg (by simp [carriedByValue])]
    rw [if_neg (by rw [List.any_toArray, List.any_eq_true]; rintro ⟨e', he', hcc⟩; simp only [Bool.and_eq_true, beq_iff_eq, bne_iff_ne] at hcc; exact hcc.2 (hka e' he' hcc.1))]
    by_cases hs : ([Value.ref x] == [Value.ref a]) = true
    · rw [if_pos hs]
      refine wpAny_bind (wpAny_pure ?_)
      rw [if_neg (by simp)]
      refine wpAny_bind ?_
      rw [List.forIn_cons]
      refine wpAny_bind ?_
      rw [hje]
      dsimp only
      rw [if_pos (by simpa using hh)]
      refine wpAny_bind (wpAny_dictEpoch hdd rfl ?_)
      refine wpAny_bind ?_
      rw [hx]
      refine heq _ _ fun h' tk xt => ?_
      refine wpAny_bind (wpAny_dictEpoch (xt _ _ hdd) rfl ?_)
      rw [if_neg (by simp)]
      cases b with
      | false =>
        simp only [Bool.false_eq_true, if_false]
        refine wpAny_bind (wpAny_rule ?_)
        rw [if_neg (by rw [decide_eq_true h0, decide_eq_true h32]; simp)]
        refine wpAny_pure ?_
        dsimp only
        rw [List.forIn_nil]
        exact wpAny_pure (wpAny_pure (hq _ _ xt))
      | true =>
        rw [if_pos rfl]
        refine wpAny_bind (wpAny_rule ?_)
        rw [if_pos (show [Value.ref x].length < 2 by simp)]
        exact wpAny_pure (wpAny_pure (wpAny_pure (hq _ _ xt)))
    · rw [if_neg hs]
      refine wpAny_bind (tells_any KX hox hc (.inr ⟨a, o', rfl, ha, hc'⟩) ?_)
      rw [if_neg (by simp)]
      refine wpAny_bind ?_
      rw [List.forIn_cons]
      refine wpAny_bind ?_
      rw [hje]
      dsimp only
      rw [if_pos (by simpa using hh)]
      refine wpAny_bind (wpAny_dictEpoch hdd rfl ?_)
      refine wpAny_bind ?_
      rw [hx]
      refine heq _ _ fun h' tk xt => ?_
      refine wpAny_bind (wpAny_dictEpoch (xt _ _ hdd) rfl ?_)
      rw [if_neg (by simp)]
      cases b with
      | false =>
        simp only [Bool.false_eq_true, if_false]
        refine wpAny_bind (wpAny_rule ?_)
        rw [if_neg (by rw [decide_eq_true h0, decide_eq_true h32]; simp)]
        refine wpAny_pure ?_
        dsimp only
        rw [List.forIn_nil]
        exact wpAny_pure (wpAny_pure (hq _ _ xt))
      | true =>
        rw [if_pos rfl]
        refine wpAny_bind (wpAny_rule ?_)
        rw [if_pos (show [Value.ref x].length < 2 by simp)]
        exact wpAny_pure (wpAny_pure (wpAny_pure (hq _ _ xt)))
end
end Mine
end
theorem Mine.flush21 : True ∧ True := by
  w_top off
  try (fail_if_success walk1)
  exact ⟨trivial, trivial⟩
section
open PySem PySem.W PyProof.Rows PySem.Spec PySem.Calls PySem.W.X
set_option maxRecDepth 100000
set_option maxHeartbeats 2000000
namespace Mine
def HashI (w : World) (A : Around) (s : Shared) (v : Value) (h : Int) : Prop := ∀ (h₁ : Heap) (tk₁ : Nat), Ext s.heap h₁ → ∀ (Q : Int → Shared → Prop) (E : Value → Shared → Prop), (∀ h' tk, Ext h₁ h' → Q h { s with heap := h', toks := tk }) → wpAny (MG w) A (pyHash v) Q E { s with heap := h₁, toks := tk₁ }
inductive Lf : Tm → Int → Prop where
  | var {k : Int} : 0 ≤ k → k < 4 → Lf (.var k) k
  | int {i : Int} : 0 ≤ i → i < 4 → Lf (.int i) i
theorem hashInt_small {k : Int} (h0 : 0 ≤ k) (h4 : k < 4) : hashInt k = k := by
  have : k = 0 ∨ k = 1 ∨ k = 2 ∨ k = 3 := by omega
  rcases this with rfl | rfl | rfl | rfl <;> decide +kernel
inductive All2 {α β : Type} (P : α → β → Prop) : List α → List β → Prop where
  | nil : All2 P [] []
  | cons {a : α} {b : β} {as : List α} {bs : List β} : P a b → All2 P as bs → All2 P (a :: as) (b :: bs)
section
variable {w : World} {hb : Heap} {A : Around} {s : Shared} {Av : Addr → Prop} {E : Value → Shared → Prop}
theorem hash_int (i : Int) (t : Tok) (h0 : 0 ≤ i) (h4 : i < 4) : HashI w A s (.int i t) i := by
  intro h1 tk1 xt Q E hQ
  exact wpAny_pyHash_int (by rw [hashInt_small h0 h4]; exact hQ _ _ (Ext.refl _))
theorem hash_leaf (B : Base w hb) (f : Fits A 6) (X : Ext hb s.heap) (hav : ∀ a, Av a → ∃ o, s.heap.get? a = some o) {v : Value} {t : Tm} {h : Int} (r : R (At hb s.heap Av) v t) (l : Lf t h) : HashI w A s v h := by
  cases l with
  | int h0 h4 =>
    cases r with
    | int i tk => exact hash_int _ _ h0 h4
  | var h0 h4 =>
    cases r with
    | var a b =>
      intro h1 tk1 xt Q E hQ
      exact pyHash_var B (s := { s with heap := h1, toks := tk1 }) f (X.trans xt) (fun a ha => by obtain ⟨o, e⟩ := hav a ha; exact ⟨o, xt _ _ e⟩) (At.ext' xt (.var a b)) h0 h4 hQ
theorem hash_tup {a : Addr} {vs : List Value} {n : Nat} {hs : List Int} (hu : A.units < cLine) (ha : s.heap.get? a = some (tupObj vs n)) (hi : All2 (HashI w A.in1 s) vs hs) : HashI w A s (.ref a) (reduceHash (Builtin.Tuple.tupleHashOf hs)) := by
  intro h1 tk1 xt Q E hQ
  have ho := xt _ _ ha
  have hT : ({ s with heap := h1, toks := tk1 } : Shared).TypeIs (.ref a) "tuple" := ⟨_, ho, rfl⟩
  unfold pyHash
  unfold pyHashByItsType
  refine wpAny_bind (wpAny_cRoomFor_or (.inr hu) ?_)
  refine wpAny_bind (wpAny_specialOf hT F.slot_tuple_hash.lookup ?_)
  show wpAny _ _ (if (some (Value.builtin "tuple.__hash__") == some Value.none) = true then _ else _) Q E _
  rw [if_neg (by rw [beq_builtin_none]; exact Bool.false_ne_true)]
  refine wpAny_bind (wpAny_specialOf hT F.slot_tuple_hash.lookup ?_)
  show wpAny _ _ (callSpecialIfBoundUnlessNone? (.ref a) "__hash__" _ >>= _) Q E _
  refine wpAny_bind (wpAny_callSpecialIfBoundUnlessNone?_slot hT F.slot_tuple_hash (wpAny_call_entry F.slot_tuple_hash hT F.entry_tuple_hash ?_ (F.args_tuple_hash_1 _)))
  show wpAny _ _ (Builtin.Tuple.tupleItemsOf (.ref a) >>= _) _ _ _
  refine wpAny_bind (wpAny_tupleItemsOf ho rfl ?_)
  refine wpAny_bind ?_
  rw [← Array.forIn_toList]
  refine wpAny_forIn_list _
    (fun rest (b : Array Int) s' => ∃ done left, hs = done ++ left ∧ All2 (HashI w A.in1 s) rest left ∧ b.toList = done ∧ ∃ h' tk', s' = { s with heap := h', toks := tk' } ∧ Ext s.heap h' ∧ Ext h1 h')
    _ ?_ ?_ _ _ ⟨[], hs, rfl, by simpa using hi, rfl, h1, tk1, rfl, xt, Ext.refl _⟩
  · rintro x rest b s' ⟨done, left, e, hl, hb, h', tk', rfl, x1, x2⟩
    cases hl with
    | @cons _ k _ ks' h1 hl' =>
      refine wpAny_bind (h1 h' tk' x1 _ _ fun h2 tk2 x3 => ?_)
      first
        | exact wpAny_pure ⟨done ++ [k], ks', by simp [e], hl', by simp [hb], h2, tk2, rfl, x1.trans x3, x2.trans x3⟩
        | exact wpAny_bind (wpAny_pure (wpAny_pure ⟨done ++ [k], ks', by simp [e], hl', by simp [hb], h2, tk2, rfl, x1.trans x3, x2.trans x3⟩))
  · rintro b s' ⟨done, left, e, hl, hb, h', tk', rfl, x1, x2⟩
    cases hl
    rw [List.append_nil] at e
    subst e
    show wpAny _ _ (retInt (Builtin.Tuple.tupleHashOf b.toList)) _ _ _
    rw [hb]
    refine wpAny_ret_mkInt ?_
    show wpAny _ _ (if (decide (-(2 : Int) ^ 63 ≤ Builtin.Tuple.tupleHashOf hs) && decide (Builtin.Tuple.tupleHashOf hs < 2 ^ 63)) = true then _ else _) Q E _
    unfold reduceHash at hQ
    by_cases hr : (decide (-(2 : Int) ^ 63 ≤ Builtin.Tuple.tupleHashOf hs) && decide (Builtin.Tuple.tupleHashOf hs < 2 ^ 63)) = true
    · rw [if_pos hr]
      rw [if_pos hr] at hQ
      exact wpAny_pure (hQ _ _ x2)
    · rw [if_neg hr]
      rw [if_neg hr] at hQ
      exact wpAny_bind (wpAny_rule (wpAny_pure (hQ _ _ x2)))
end
theorem nohit2 : ∀ a b : Fin 4, ∀ k : Fin 4, reduceHash (Builtin.Tuple.tupleHashOf [(a.val : Int), (b.val : Int)]) ≠ (k.val : Int) := by decide +kernel
theorem nohit3 : ∀ a b : Fin 4, ∀ k : Fin 4, reduceHash (Builtin.Tuple.tupleHashOf [(a.val : Int), 0, (b.val : Int)]) ≠ (k.val : Int) := by decide +kernel
end Mine
end
theorem Mine.flush22 : True ∧ True := by
  w_top off
  try (fail_if_success walk1)
  exact ⟨trivial, trivial⟩
section
open PySem PySem.W PyProof.Rows PySem.Spec PySem.Calls PySem.W.X
set_option maxRecDepth 100000
set_option maxHeartbeats 2000000
namespace Mine
/-- the entries of a substitution, in the order ks -/
inductive Ents (P : Addr → Obj → Prop) (σ : Sb) : List Int → List DictEntry → Prop where
  | nil : Ents P σ [] []
  | cons {k : Int} {ks : List Int} {x : Addr} {v : Value} {t : Tm} {es : List DictEntry} : R P (.ref x) (.var k) → σ.Has k (some t) → R P v t → Ents P σ ks es → Ents P σ (k :: ks) (⟨k, .ref x, v⟩ :: es)
structure Sub (P : Addr → Obj → Prop) (σ : Sb) (d : Addr) (ks : List Int) : Prop where
  ex : ∃ es ep, P d (dctO es.toArray ep) ∧ Ents P σ ks es
  nodup : ks.Nodup
  all : ∀ k t, σ.Has k (some t) → k ∈ ks
theorem Ents.mono {P P' : Addr → Obj → Prop} (h : ∀ a o, P a o → P' a o) {σ : Sb} {ks : List Int} {es : List DictEntry} (e : Ents P σ ks es) : Ents P' σ ks es := by
  induction e with
  | nil => exact .nil
  | cons a b c _ ih => exact .cons (a.mono h) b (c.mono h) ih
theorem Sub.mono {P P' : Addr → Obj → Prop} (h : ∀ a o, P a o → P' a o) {σ : Sb} {d : Addr} {ks : List Int} (e : Sub P σ d ks) : Sub P' σ d ks := by
  obtain ⟨es, ep, a, b⟩ := e.ex
  exact ⟨⟨es, ep, h _ _ a, b.mono h⟩, e.nodup, e.all⟩
theorem Has.rng {σ : Sb} {k : Int} {o : Option Tm} (h : σ.Has k o) : 0 ≤ k ∧ k < 4 := by cases h <;> decide
theorem Has.fn {σ : Sb} {k : Int} {o o' : Option Tm} (h : σ.Has k o) (h' : σ.Has k o') : o = o' := by
  cases h <;> cases h' <;> rfl
theorem Ents.at {P : Addr → Obj → Prop} {σ : Sb} {ks : List Int} {es : List DictEntry} (e : Ents P σ ks es) : ∀ {i : Nat} {d : DictEntry}, es[i]? = some d → ∃ k x v t, ks[i]? = some k ∧ d = ⟨k, .ref x, v⟩ ∧ R P (.ref x) (.var k) ∧ σ.Has k (some t) ∧ R P v t := by
  induction e with
  | nil => intro i d h; simp at h
  | @cons k ks x v t es a b c _ ih =>
    intro i d h
    cases i with
    | zero =>
      simp only [List.getElem?_cons_zero, Option.some.injEq] at h
      exact ⟨k, x, v, t, rfl, h.symm, a, b, c⟩
    | succ i =>
      simp only [List.getElem?_cons_succ] at h ⊢
      exact ih h
theorem Ents.of {P : Addr → Obj → Prop} {σ : Sb} {ks : List Int} {es : List DictEntry} (e : Ents P σ ks es) : ∀ {i : Nat} {k : Int}, ks[i]? = some k → ∃ d, es[i]? = some d := by
  induction e with
  | nil => intro i d h; simp at h
  | @cons k ks x v t es a b c _ ih =>
    intro i d h
    cases i with
    | zero => exact ⟨_, rfl⟩
    | succ i =>
      simp only [List.getElem?_cons_succ] at h ⊢
      exact ih h
theorem var_inj {hb h : Heap} {Av : Addr → Prop} {a : Addr} {j k : Int} (r : R (At hb h Av) (.ref a) (.var j)) (r2 : R (At hb h Av) (.ref a) (.var k)) : j = k := by
  cases r with
  | var a b =>
  cases r2 with
  | var c d =>
  have e := a.1.symm.trans c.1
  simp only [Option.some.injEq, Obj.mk.injEq] at e
  obtain ⟨_, rfl, _⟩ := e
  have e := b.1.symm.trans d.1
  injection e with e
  injection e with _ _ e
  injection e with e
  simp only [Array.mk.injEq, List.cons.injEq, DictEntry.mk.injEq, Value.int.injEq] at e
  exact e.1.2.2.1
section
variable {w : World} {hb : Heap} {A : Around} {s : Shared} {Av : Addr → Prop} {E : Value → Shared → Prop} {σ : Sb} {d : Addr} {ks : List Int}
theorem idx_inj {ks : List Int} (hn : ks.Nodup) {i j : Nat} {k : Int} (hi : ks[i]? = some k) (hj : ks[j]? = some k) : i = j := by
  obtain ⟨h1, e1⟩ := List.getElem?_eq_some_iff.mp hi
  obtain ⟨h2, e2⟩ := List.getElem?_eq_some_iff.mp hj
  have z := List.pairwise_iff_getElem.mp hn
  rcases Nat.lt_trichotomy i j with h | h | h
  · exact absurd (e1.trans e2.symm) (z i j h1 h2 h)
  · exact h
  · exact absurd (e2.trans e1.symm) (z j i h2 h1 h)
/-- a key whose hash no variable of the substitution has -/
theorem get_none {key : Value} {h : Int} {Q : Option Value → Shared → Prop} (S : Sub (At hb s.heap Av) σ d ks) (hh : HashI w A s key h) (hno : h ∉ ks) (hk : (∃ i t, key = .int i t) ∨ ∃ a o, key = .ref a ∧ s.heap.get? a = some o ∧ ∀ k ∈ ks, ¬ R (At hb s.heap Av) (.ref a) (.var k))
    (hq : ∀ h' tk, Ext s.heap h' → Q none { s with heap := h', toks := tk }) : wpAny (MG w) A (dictGet d key) Q E s := by
  obtain ⟨es, ep, hd, he⟩ := S.ex
  unfold dictGet
  refine wpAny_holding (wpAny_bind (hh s.heap s.toks (Ext.refl _) _ _ fun h' tk xt => ?_))
  refine wpAny_bind (find_none (s := { s with heap := h', toks := tk }) (es := es) (ep := ep) (xt _ _ hd.1) (fun e hm q => ?_) ?_ (wpAny_pure (hq _ _ xt)))
  · obtain ⟨i, hi⟩ := List.mem_iff_getElem?.mp hm
    obtain ⟨k, x, v, t, h1, rfl, _⟩ := he.at hi
    exact hno (q ▸ List.mem_of_getElem? h1)
  · rcases hk with hk | ⟨a, o, rfl, ha, hne⟩
    · exact .inl hk
    · refine .inr ⟨a, rfl, fun e hm q => ?_⟩
      obtain ⟨i, hi⟩ := List.mem_iff_getElem?.mp hm
      obtain ⟨k, x, v, t, h1, rfl, h2, _⟩ := he.at hi
      simp only [Value.ref.injEq] at q
      subst q
      exact hne k (List.mem_of_getElem? h1) h2
/-- a key whose hash a variable of the substitution has -/
theorem get_hit {key : Value} {k : Int} {b : Bool} {Q : Option Value → Shared → Prop} (B : Base w hb) (X : Ext hb s.heap) (S : Sub (At hb s.heap Av) σ d ks) (hh : HashI w A s key k) (hin : k ∈ ks) (hk : (∃ i t, key = .int i t) ∨ ∃ a, key = .ref a ∧ R (At hb s.heap Av) (.ref a) (.var k))
    (heq : ∀ x, R (At hb s.heap Av) (.ref x) (.var k) → ∀ h₁ tk₁, Ext s.heap h₁ → ∀ (Q : Bool → Shared → Prop) (E : Value → Shared → Prop), (∀ h' tk, Ext h₁ h' → Q b { s with heap := h', toks := tk }) → wpAny (MG w) A (eqBool (.ref x) key) Q E { s with heap := h₁, toks := tk₁ })
    (hq : ∀ h' tk v t, Ext s.heap h' → σ.Has k (some t) → R (At hb h' Av) v t → Q (if b then some v else none) { s with heap := h', toks := tk }) : wpAny (MG w) A (dictGet d key) Q E s := by
  obtain ⟨es, ep, hd, he⟩ := S.ex
  obtain ⟨j, hj⟩ := List.mem_iff_getElem?.mp hin
  obtain ⟨e, hje⟩ := he.of hj
  obtain ⟨k', x, v, t, h1, rfl, h2, h3, h4⟩ := he.at hje
  rw [hj] at h1
  cases h1
  have rng := Has.rng h3
  obtain ⟨ox, hox, hcx⟩ := var_obj h2
  unfold dictGet
  refine wpAny_holding (wpAny_bind (hh s.heap s.toks (Ext.refl _) _ _ fun h' tk xt => ?_))
  have KX := B.kx.keeps (X.trans xt)
  refine wpAny_bind (find_some (s := { s with heap := h', toks := tk }) (es := es) (ep := ep) (b := b) (xt _ _ hd.1) hje rfl (fun i e' hi hij q => ?_) rng.1 (by omega) rfl KX (xt _ _ hox.1) hcx ?_ (fun e' hm q => ?_) (fun Q E hq => heq x h2 h' tk xt Q E hq) fun h2' tk2 xt2 => ?_)
  · obtain ⟨k', x', v', t', g1, rfl, _⟩ := he.at hi
    exact hij (idx_inj S.nodup (q ▸ g1) hj)
  · rcases hk with hk | ⟨a, rfl, ha⟩
    · exact .inl hk
    · obtain ⟨o, ho, hc⟩ := var_obj ha
      exact .inr ⟨a, o, rfl, xt _ _ ho.1, hc⟩
  · rcases hk with ⟨i, t', rfl⟩ | ⟨a, rfl, ha⟩
    · obtain ⟨i', hi⟩ := List.mem_iff_getElem?.mp hm
      obtain ⟨k', x', v', t'', g1, rfl, g2, _⟩ := he.at hi
      cases q
    · obtain ⟨i', hi⟩ := List.mem_iff_getElem?.mp hm
      obtain ⟨k', x', v', t'', g1, rfl, g2, _⟩ := he.at hi
      simp only [Value.ref.injEq] at q
      subst q
      exact var_inj g2 ha
  · cases b with
    | false => exact wpAny_pure (hq _ _ v t (xt.trans xt2) h3 (At.ext' (xt.trans xt2) h4))
    | true =>
      simp only [if_true]
      refine wpAny_bind (wpAny_dictEntries ((xt.trans xt2) _ _ hd.1) rfl ?_)
      rw [List.getElem?_toArray, hje]
      exact wpAny_pure (hq _ _ v t (xt.trans xt2) h3 (At.ext' (xt.trans xt2) h4))
end
end Mine
end
theorem Mine.flush23 : True ∧ True := by
  w_top off
  try (fail_if_success walk1)
  exact ⟨trivial, trivial⟩
section
open PySem PySem.W PyProof.Rows PySem.Spec PySem.Calls PySem.W.X
set_option maxRecDepth 100000
set_option maxHeartbeats 8000000
namespace Mine
abbrev frs (l : List Env) : List Addr := l.filterMap (·.frame)
/-- a heap grown, but for the slots of S -/
def ExtS (S : List Addr) (h h' : Heap) : Prop := ∀ b o, h.get? b = some o → (b ∉ S → h'.get? b = some o) ∧ (b ∈ S → ∃ sl, h'.get? b = some { o with slots := sl })
theorem ExtS.of {S : List Addr} {h h' : Heap} (x : Ext h h') : ExtS S h h' := fun b o e => ⟨fun _ => x b o e, fun _ => ⟨o.slots, x b o e⟩⟩
theorem ExtS.refl (S : List Addr) (h : Heap) : ExtS S h h := .of (Ext.refl h)
theorem ExtS.trans {S : List Addr} {a b c : Heap} (x : ExtS S a b) (y : ExtS S b c) : ExtS S a c := fun z o e => by
  by_cases hz : z ∈ S
  · obtain ⟨sl, e1⟩ := (x z o e).2 hz
    obtain ⟨sl2, e2⟩ := (y z _ e1).2 hz
    exact ⟨fun n => absurd hz n, fun _ => ⟨sl2, e2⟩⟩
  · exact ⟨fun _ => (y z o ((x z o e).1 hz)).1 hz, fun n => absurd n hz⟩
theorem ExtS.some {S : List Addr} {h h' : Heap} (x : ExtS S h h') {b : Addr} {o : Obj} (e : h.get? b = some o) : ∃ sl, h'.get? b = some { o with slots := sl } := by
  by_cases hb : b ∈ S
  · exact (x b o e).2 hb
  · exact ⟨o.slots, (x b o e).1 hb⟩
theorem FunFrames.none {hb h : Heap} {l : List Env} (F : h.FunFrames hb l) {a : Addr} (ha : a ∈ frs l) : hb.get? a = none := (F.mem ha).1
theorem ExtS.base {hb h h' : Heap} {l : List Env} (x : ExtS (frs l) h h') (X : Ext hb h) (F : h.FunFrames hb l) : Ext hb h' := fun b o e => (x b o (X b o e)).1 fun m => by rw [FunFrames.none F m] at e; cases e
theorem ExtS.frames {hb h h' : Heap} {S : List Addr} {l : List Env} (x : ExtS S h h') (F : h.FunFrames hb l) : h'.FunFrames hb l := F.of_keeps fun b o e _ => by
  obtain ⟨sl, e'⟩ := x.some e
  exact ⟨_, e', rfl⟩
theorem At.extS {hb h h' : Heap} {Av : Addr → Prop} {S : List Addr} (x : ExtS S h h') (hS : ∀ a ∈ S, Av a) {a : Addr} {o : Obj} (y : At hb h Av a o) : At hb h' Av a o := ⟨(x a o y.1).1 fun m => y.2.2 (hS a m), y.2⟩
/-- a contract of a call by which the frames on the stack may be marked -/
def RCF (w : World) (hb : Heap) (f : Value) (args : List Value) (cost : Nat) (pre : (Addr → Obj → Prop) → Prop) (post : Value → (Addr → Obj → Prop) → Prop) : Prop :=
  ∀ (A : Around) (s : Shared) (Av : Addr → Prop) (outer : List Env), Fits A cost → A.frames = some outer → s.heap.FunFrames hb outer → (∀ a ∈ frs outer, Av a) → Ext hb s.heap → (∀ a, Av a → ∃ o, s.heap.get? a = some o) → pre (At hb s.heap Av) → ∀ (Q E : Value → Shared → Prop),
    (∀ v h' tk, ExtS (frs outer) s.heap h' → post v (At hb h' Av) → Q v { s with heap := h', toks := tk }) → wpAny (model PySem.Challenge.rw_fe0177_01.prog w) A (call f args) Q E s

/-- what a walk knows, where frames may be marked -/
structure WkF (hb h₀ : Heap) (Av : Addr → Prop) (S : List Addr) (L : Addr) (D : List (Addr × Obj)) : Prop where
  ext : Ext hb h₀
  av : ∀ a, Av a → ∃ o, h₀.get? a = some o
  off : h₀.get? L = none
  sub : ∀ a ∈ S, Av a
  all : ∀ p ∈ allX hb h₀ [], (p.1 ∉ S → p ∈ D) ∧ (p.1 ∈ S → ∃ sl, (p.1, { p.2 with slots := sl }) ∈ D)
theorem WkF.cons {hb h₀ : Heap} {Av : Addr → Prop} {S : List Addr} {L : Addr} {D : List (Addr × Obj)} {q : Addr × Obj} (W : WkF hb h₀ Av S L D) : WkF hb h₀ Av S L (q :: D) :=
  ⟨W.ext, W.av, W.off, W.sub, fun p hp => ⟨fun h => .tail _ ((W.all p hp).1 h), fun h => by obtain ⟨sl, z⟩ := (W.all p hp).2 h; exact ⟨sl, .tail _ z⟩⟩⟩
theorem WkF.mono {hb h₀ : Heap} {Av : Addr → Prop} {S : List Addr} {L : Addr} {D D' : List (Addr × Obj)} (W : WkF hb h₀ Av S L D) (s : ∀ p ∈ D, p ∈ D') : WkF hb h₀ Av S L D' :=
  ⟨W.ext, W.av, W.off, W.sub, fun p hp => ⟨fun h => s _ ((W.all p hp).1 h), fun h => by obtain ⟨sl, z⟩ := (W.all p hp).2 h; exact ⟨sl, s _ z⟩⟩⟩
theorem Wk.toF {hb h₀ : Heap} {Av : Addr → Prop} {S : List Addr} {L : Addr} {D : List (Addr × Obj)} (W : Wk hb h₀ Av L D) (hS : ∀ a ∈ S, Av a) : WkF hb h₀ Av S L D :=
  ⟨W.ext, W.av, W.off, hS, fun p hp => ⟨fun _ => W.all p hp, fun _ => ⟨p.2.slots, W.all p hp⟩⟩⟩
/-- of a ledger: kept, up to the slots of S -/
def SubF (S : List Addr) (D D' : List (Addr × Obj)) : Prop := ∀ p ∈ D, (p.1 ∉ S → p ∈ D') ∧ (p.1 ∈ S → ∃ sl, (p.1, { p.2 with slots := sl }) ∈ D')
theorem SubF.of {S : List Addr} {D D' : List (Addr × Obj)} (s : ∀ p ∈ D, p ∈ D') : SubF S D D' := fun p hp => ⟨fun _ => s p hp, fun _ => ⟨p.2.slots, s p hp⟩⟩
theorem WkF.subF {hb h₀ : Heap} {Av : Addr → Prop} {S : List Addr} {L : Addr} {D D' : List (Addr × Obj)} (W : WkF hb h₀ Av S L D) (s : SubF S D D') : WkF hb h₀ Av S L D' :=
  ⟨W.ext, W.av, W.off, W.sub, fun p hp => ⟨fun h => (s _ ((W.all p hp).1 h)).1 h, fun h => by
    obtain ⟨sl, z⟩ := (W.all p hp).2 h
    obtain ⟨sl2, z2⟩ := (s _ z).2 h
    exact ⟨sl2, z2⟩⟩⟩
theorem PD.subF {Av : Addr → Prop} {S : List Addr} {D D' : List (Addr × Obj)} (s : SubF S D D') (hS : ∀ a ∈ S, Av a) {a : Addr} {o : Obj} (x : PD D Av a o) : PD D' Av a o := ⟨(s _ x.1).1 fun m => x.2 (hS a m), x.2⟩
theorem WkF.done {hb h₀ h : Heap} {Av : Addr → Prop} {S : List Addr} {L : Addr} {D : List (Addr × Obj)} {m : Str → Option Value} (W : WkF hb h₀ Av S L D) (hSn : ∀ a ∈ S, hb.get? a = none) (F : Fr hb L h m) (N : News hb L h D) : ExtS S h₀ h := by
  intro a o e
  cases q : hb.get? a with
  | none =>
    have z := W.all (a, o) (allX_mem.mpr ⟨q, e, List.not_mem_nil⟩)
    refine ⟨fun h => (N _ (z.1 h)).1, fun h => ?_⟩
    obtain ⟨sl, m⟩ := z.2 h
    exact ⟨sl, (N _ m).1⟩
  | some o' =>
    have z := W.ext a o' q
    rw [e] at z
    cases z
    exact ⟨fun _ => F.keep _ _ q, fun h => by rw [hSn a h] at q; cases q⟩
theorem WkF.pd {hb h₀ : Heap} {Av : Addr → Prop} {S : List Addr} {L : Addr} {D : List (Addr × Obj)} (W : WkF hb h₀ Av S L D) {a : Addr} {o : Obj} (x : At hb h₀ Av a o) : PD D Av a o :=
  ⟨(W.all _ (allX_mem.mpr ⟨x.2.1, x.1, List.not_mem_nil⟩)).1 fun m => x.2.2 (W.sub a m), x.2.2⟩
theorem WkF.newOff {hb h₀ h : Heap} {Av : Addr → Prop} {S : List Addr} {L : Addr} {D D' : List (Addr × Obj)} (W : WkF hb h₀ Av S L D) {a : Addr} {o : Obj} (hm : (a, o) ∈ D') (N : News hb L h D') (hl : ∀ p ∈ D, p.1 ≠ a) : PD D' Av a o := by
  refine ⟨hm, fun z => ?_⟩
  obtain ⟨o', e⟩ := W.av a z
  have q := W.all (a, o') (allX_mem.mpr ⟨(N _ hm).2.2, e, List.not_mem_nil⟩)
  by_cases hs : a ∈ S
  · obtain ⟨sl, m⟩ := q.2 hs
    exact hl _ m rfl
  · exact hl _ (q.1 hs) rfl
theorem WkF.frames {hb h₀ h : Heap} {Av : Addr → Prop} {S : List Addr} {L : Addr} {D : List (Addr × Obj)} {l : List Env} {m : Str → Option Value} (W : WkF hb h₀ Av S L D) (hSn : ∀ a ∈ S, hb.get? a = none) (F : Fr hb L h m) (N : News hb L h D) (FF : h₀.FunFrames hb l) : h.FunFrames hb l := (W.done hSn F N).frames FF
/-- the frame of a walk -/
structure Own (hb : Heap) (env : Env) (L : Addr) : Prop where
  frame : env.frame = some L
  kind : env.scope.kind ≠ .module
  base : hb.objs.size ≤ L
theorem Own.none {hb : Heap} {env : Env} {L : Addr} (O : Own hb env L) : hb.get? L = none := by
  cases q : hb.get? L with
  | none => rfl
  | some o => exact absurd (Heap.lt_size q) (Nat.not_lt.mpr O.base)
theorem Own.frames {hb h : Heap} {env : Env} {L : Addr} {l : List Env} {m : Str → Option Value} (O : Own hb env L) (F : Fr hb L h m) (FF : h.FunFrames hb l) : h.FunFrames hb (env :: l) := by
  obtain ⟨o, es, ep, ho, hd, _⟩ := F.ns
  exact ⟨O.kind, ⟨L, o, O.frame, O.none, ho, fun vs => by rw [hd]; exact fun q => nomatch q⟩, FF⟩
theorem Own.frs {hb : Heap} {env : Env} {L : Addr} {l : List Env} (O : Own hb env L) : frs (env :: l) = L :: frs l := by
  show List.filterMap _ _ = _
  rw [List.filterMap_cons, O.frame]
theorem Fr.extS {hb h h' : Heap} {L : Addr} {m : Str → Option Value} {S : List Addr} (F : Fr hb L h m) (x : ExtS S h h') (hSn : ∀ a ∈ S, hb.get? a = none) : Fr hb L h' m := by
  obtain ⟨o, es, ep, ho, hd, r⟩ := F.ns
  obtain ⟨sl, e⟩ := x.some ho
  exact ⟨⟨_, es, ep, e, hd, r⟩, fun b o e => (x b o (F.keep b o e)).1 (fun m => by rw [hSn b m] at e; cases e), F.above⟩
section
variable {w : World} {hb h₀ : Heap} {A : Around} {s : Shared} {f : Value} {args : List Value} {cost : Nat} {pre : (Addr → Obj → Prop) → Prop} {post : Value → (Addr → Obj → Prop) → Prop} {L : Addr} {m : Str → Option Value} {D : List (Addr × Obj)} {Q E : Value → Shared → Prop} {Av : Addr → Prop} {outer : List Env} {env : Env}
/-- a contract that marks frames, used in a walk; mu: what may turn, ahead in the ledger -/
theorem RCF.useX (C : RCF w hb f args cost pre post) (mu : List (Addr × Obj)) (F : Fr hb L s.heap m) (N : News hb L s.heap (mu ++ D)) (off : ∀ p ∈ D, p.1 ∉ mu.map (·.1)) (offS : ∀ p ∈ mu, p.1 ∉ frs outer) (W : WkF hb h₀ Av (frs outer) L D) (fit : Fits A cost)
    (hfr : A.frames = some (env :: outer)) (O : Own hb env L) (FF : h₀.FunFrames hb outer) (hpre : pre (PD D Av))
    (hm : ∀ P P' : Addr → Obj → Prop, (∀ a o, P a o → P' a o) → pre P → pre P') (hn : ∀ v, ∀ P P' : Addr → Obj → Prop, (∀ a o, P a o → P' a o) → post v P → post v P')
    (ret : ∀ v h' tk D', Fr hb L h' m → News hb L h' (mu ++ D') → (∀ p ∈ D', p.1 ∉ mu.map (·.1)) → SubF (frs outer) D D' → WkF hb h₀ Av (frs outer) L D' → post v (PD D' Av) → Q v { s with heap := h', toks := tk }) :
    wpAny (model PySem.Challenge.rw_fe0177_01.prog w) A (call f args) Q E s := by
  have ND : News hb L s.heap D := fun p hp => N p (List.mem_append_right _ hp)
  have hSn : ∀ a ∈ frs outer, hb.get? a = none := fun a ha => FunFrames.none FF ha
  have D0 := W.done hSn F ND
  have hLS : L ∉ frs outer := fun hm => by
    obtain ⟨o, e⟩ := W.av L (W.sub L hm)
    rw [W.off] at e; cases e
  have hSn' : ∀ a ∈ frs (env :: outer), hb.get? a = none := fun a ha => by
    rw [O.frs] at ha
    rcases List.mem_cons.mp ha with rfl | ha
    · exact O.none
    · exact hSn a ha
  refine C A s (fun a => Av a ∨ a ∈ L :: mu.map (·.1)) (env :: outer) fit hfr (O.frames F (D0.frames FF)) (fun a ha => ?_) F.keep (fun a ha => ?_) (hm _ _ (fun a o x => ?_) hpre) Q E fun v h' tk x p => ?_
  · rw [O.frs] at ha
    rcases List.mem_cons.mp ha with rfl | ha
    · exact .inr (.head _)
    · exact .inl (W.sub a ha)
  · rcases ha with ha | ha
    · obtain ⟨o, e⟩ := W.av a ha
      obtain ⟨sl, e'⟩ := D0.some e
      exact ⟨_, e'⟩
    · rcases List.mem_cons.mp ha with rfl | ha
      · obtain ⟨oL, _, _, hL, _⟩ := F.ns
        exact ⟨oL, hL⟩
      · obtain ⟨q, hq, rfl⟩ := List.mem_map.mp ha
        exact ⟨q.2, (N q (List.mem_append_left _ hq)).1⟩
  · refine ⟨(ND _ x.1).1, (ND _ x.1).2.2, fun z => z.elim x.2 fun z => ?_⟩
    rcases List.mem_cons.mp z with rfl | z
    · exact (ND _ x.1).2.1 rfl
    · exact off _ x.1 z
  · have x' : ExtS (L :: frs outer) s.heap h' := O.frs ▸ x
    have sub : SubF (frs outer) D (allX hb h' (L :: mu.map (·.1))) := fun p hp => by
      have nX : p.1 ∉ L :: mu.map (·.1) := fun q => (List.mem_cons.mp q).elim (ND p hp).2.1 (off p hp)
      refine ⟨fun h => ?_, fun h => ?_⟩
      · exact allX_mem.mpr ⟨(ND p hp).2.2, (x' _ _ (ND p hp).1).1 fun q => (List.mem_cons.mp q).elim (ND p hp).2.1 h, nX⟩
      · obtain ⟨sl, e⟩ := (x' _ _ (ND p hp).1).2 (.tail _ h)
        exact ⟨sl, allX_mem.mpr ⟨(ND p hp).2.2, e, nX⟩⟩
    have N' : News hb L h' mu := fun p hp => ⟨(x' _ _ (N p (List.mem_append_left _ hp)).1).1 fun q => (List.mem_cons.mp q).elim (N p (List.mem_append_left _ hp)).2.1 (offS p hp), (N p (List.mem_append_left _ hp)).2⟩
    refine ret v h' tk (allX hb h' (L :: mu.map (·.1))) (Fr.extS F x hSn') (News_app N' (News_all (.head _))) (fun p hp => ?_) sub (W.subF sub) (hn v _ _ (fun a o y => ⟨allX_mem.mpr ⟨y.2.1, y.1, fun q => y.2.2 (.inr q)⟩, fun z => y.2.2 (.inl z)⟩) p)
    exact fun q => (allX_mem.mp hp).2.2 (List.mem_cons_of_mem _ q)
/-- a plain contract used in such a walk -/
theorem RC.useF (C : RC w hb f args cost pre post) (mu : List (Addr × Obj)) (F : Fr hb L s.heap m) (N : News hb L s.heap (mu ++ D)) (off : ∀ p ∈ D, p.1 ∉ mu.map (·.1)) (W : WkF hb h₀ Av (frs outer) L D) (fit : Fits A cost) (FF : h₀.FunFrames hb outer) (hpre : pre (PD D Av))
    (hm : ∀ P P' : Addr → Obj → Prop, (∀ a o, P a o → P' a o) → pre P → pre P') (hn : ∀ v, ∀ P P' : Addr → Obj → Prop, (∀ a o, P a o → P' a o) → post v P → post v P')
    (ret : ∀ v h' tk D', Fr hb L h' m → News hb L h' (mu ++ D') → (∀ p ∈ D', p.1 ∉ mu.map (·.1)) → (∀ p ∈ D, p ∈ D') → WkF hb h₀ Av (frs outer) L D' → post v (PD D' Av) → Q v { s with heap := h', toks := tk }) :
    wpAny (model PySem.Challenge.rw_fe0177_01.prog w) A (call f args) Q E s := by
  have ND : News hb L s.heap D := fun p hp => N p (List.mem_append_right _ hp)
  have D0 := W.done (fun a ha => FunFrames.none FF ha) F ND
  refine C A s (fun a => Av a ∨ a ∈ L :: mu.map (·.1)) fit F.keep (fun a ha => ?_) (hm _ _ (fun a o x => ?_) hpre) Q E fun v h' tk x p => ?_
  · rcases ha with ha | ha
    · obtain ⟨o, e⟩ := W.av a ha
      obtain ⟨sl, e'⟩ := D0.some e
      exact ⟨_, e'⟩
    · rcases List.mem_cons.mp ha with rfl | ha
      · obtain ⟨oL, _, _, hL, _⟩ := F.ns
        exact ⟨oL, hL⟩
      · obtain ⟨q, hq, rfl⟩ := List.mem_map.mp ha
        exact ⟨q.2, (N q (List.mem_append_left _ hq)).1⟩
  · refine ⟨(ND _ x.1).1, (ND _ x.1).2.2, fun z => z.elim x.2 fun z => ?_⟩
    rcases List.mem_cons.mp z with rfl | z
    · exact (ND _ x.1).2.1 rfl
    · exact off _ x.1 z
  · have sub : ∀ p ∈ D, p ∈ allX hb h' (L :: mu.map (·.1)) := fun p hp => allX_mem.mpr ⟨(ND p hp).2.2, x _ _ (ND p hp).1, fun q => (List.mem_cons.mp q).elim (ND p hp).2.1 (off p hp)⟩
    have N' : News hb L h' mu := fun p hp => ⟨x _ _ (N p (List.mem_append_left _ hp)).1, (N p (List.mem_append_left _ hp)).2⟩
    refine ret v h' tk (allX hb h' (L :: mu.map (·.1))) (Fr_ext F x) (News_app N' (News_all (.head _))) (fun p hp => ?_) sub (W.mono sub) (hn v _ _ (fun a o y => ⟨allX_mem.mpr ⟨y.2.1, y.1, fun q => y.2.2 (.inr q)⟩, fun z => y.2.2 (.inl z)⟩) p)
    exact fun q => (allX_mem.mp hp).2.2 (List.mem_cons_of_mem _ q)
end
end Mine
end
theorem Mine.flush24 : True ∧ True := by
  w_top off
  try (fail_if_success walk1)
  exact ⟨trivial, trivial⟩
section
open PySem PySem.W PyProof.Rows PySem.Spec PySem.Calls PySem.W.X
set_option maxRecDepth 100000
set_option maxHeartbeats 8000000
namespace Mine
/-- a contract of any tree, over the bare heap: the heap only grows -/
def RO {α : Type} (w : World) (hb : Heap) (t : Sem α) (cost : Nat) (pre : (Addr → Obj → Prop) → Prop) (post : α → (Addr → Obj → Prop) → Prop) : Prop :=
  ∀ (A : Around) (s : Shared) (Av : Addr → Prop), Fits A cost → Ext hb s.heap → (∀ a, Av a → ∃ o, s.heap.get? a = some o) → pre (At hb s.heap Av) → ∀ (Q : α → Shared → Prop) (E : Value → Shared → Prop),
    (∀ v h' tk, Ext s.heap h' → post v (At hb h' Av) → Q v { s with heap := h', toks := tk }) → wpAny (model PySem.Challenge.rw_fe0177_01.prog w) A t Q E s
section
variable {w : World} {hb h₀ : Heap} {A : Around} {s : Shared} {cost : Nat} {pre : (Addr → Obj → Prop) → Prop} {L : Addr} {m : Str → Option Value} {D : List (Addr × Obj)} {E : Value → Shared → Prop} {Av : Addr → Prop} {outer : List Env}
/-- a contract of a tree, used in a walk where frames may be marked -/
theorem RO.useF {α : Type} {t : Sem α} {post : α → (Addr → Obj → Prop) → Prop} {Q : α → Shared → Prop} (C : RO w hb t cost pre post) (mu : List (Addr × Obj)) (F : Fr hb L s.heap m) (N : News hb L s.heap (mu ++ D)) (off : ∀ p ∈ D, p.1 ∉ mu.map (·.1)) (W : WkF hb h₀ Av (frs outer) L D) (fit : Fits A cost) (FF : h₀.FunFrames hb outer) (hpre : pre (PD D Av))
    (hm : ∀ P P' : Addr → Obj → Prop, (∀ a o, P a o → P' a o) → pre P → pre P') (hn : ∀ v, ∀ P P' : Addr → Obj → Prop, (∀ a o, P a o → P' a o) → post v P → post v P')
    (ret : ∀ v h' tk D', Fr hb L h' m → News hb L h' (mu ++ D') → (∀ p ∈ D', p.1 ∉ mu.map (·.1)) → (∀ p ∈ D, p ∈ D') → WkF hb h₀ Av (frs outer) L D' → post v (PD D' Av) → Q v { s with heap := h', toks := tk }) :
    wpAny (model PySem.Challenge.rw_fe0177_01.prog w) A t Q E s := by
  have ND : News hb L s.heap D := fun p hp => N p (List.mem_append_right _ hp)
  have D0 := W.done (fun a ha => FunFrames.none FF ha) F ND
  refine C A s (fun a => Av a ∨ a ∈ L :: mu.map (·.1)) fit F.keep (fun a ha => ?_) (hm _ _ (fun a o x => ?_) hpre) Q E fun v h' tk x p => ?_
  · rcases ha with ha | ha
    · obtain ⟨o, e⟩ := W.av a ha
      obtain ⟨sl, e'⟩ := D0.some e
      exact ⟨_, e'⟩
    · rcases List.mem_cons.mp ha with rfl | ha
      · obtain ⟨oL, _, _, hL, _⟩ := F.ns
        exact ⟨oL, hL⟩
      · obtain ⟨q, hq, rfl⟩ := List.mem_map.mp ha
        exact ⟨q.2, (N q (List.mem_append_left _ hq)).1⟩
  · refine ⟨(ND _ x.1).1, (ND _ x.1).2.2, fun z => z.elim x.2 fun z => ?_⟩
    rcases List.mem_cons.mp z with rfl | z
    · exact (ND _ x.1).2.1 rfl
    · exact off _ x.1 z
  · have sub : ∀ p ∈ D, p ∈ allX hb h' (L :: mu.map (·.1)) := fun p hp => allX_mem.mpr ⟨(ND p hp).2.2, x _ _ (ND p hp).1, fun q => (List.mem_cons.mp q).elim (ND p hp).2.1 (off p hp)⟩
    have N' : News hb L h' mu := fun p hp => ⟨x _ _ (N p (List.mem_append_left _ hp)).1, (N p (List.mem_append_left _ hp)).2⟩
    refine ret v h' tk (allX hb h' (L :: mu.map (·.1))) (Fr_ext F x) (News_app N' (News_all (.head _))) (fun p hp => ?_) sub (W.mono sub) (hn v _ _ (fun a o y => ⟨allX_mem.mpr ⟨y.2.1, y.1, fun q => y.2.2 (.inr q)⟩, fun z => y.2.2 (.inl z)⟩) p)
    exact fun q => (allX_mem.mp hp).2.2 (List.mem_cons_of_mem _ q)
end
end Mine
end
theorem Mine.flush25 : True ∧ True := by
  w_top off
  try (fail_if_success walk1)
  exact ⟨trivial, trivial⟩
section
open PySem PySem.W PyProof.Rows PySem.Spec PySem.Calls PySem.W.X
set_option maxRecDepth 100000
set_option maxHeartbeats 2000000
namespace Mine
/-- what a key finds -/
inductive Nx (σ : Sb) : Tm → Option Tm → Prop where
  | bound {k : Int} {t : Tm} : σ.Has k (some t) → Nx σ (.var k) (some t)
  | free {k : Int} : σ.Has k none → Nx σ (.var k) none
  | int {i : Int} : 0 ≤ i → i < 4 → Nx σ (.int i) none
  | tup2 {a b : Tm} {h k : Int} : Lf a h → Lf b k → Nx σ (.tup2 a b) none
  | tup3 {a b : Tm} {h k : Int} : Lf a h → Lf b k → Nx σ (.tup3 a b) none
theorem Lf.fin {t : Tm} {h : Int} (l : Lf t h) : ∃ f : Fin 4, (f.val : Int) = h := by
  have : 0 ≤ h ∧ h < 4 := by cases l <;> exact ⟨by assumption, by assumption⟩
  refine ⟨⟨h.toNat, by omega⟩, ?_⟩
  show ((h.toNat : Nat) : Int) = h
  omega
theorem Ents.has {P : Addr → Obj → Prop} {σ : Sb} {ks : List Int} {es : List DictEntry} (e : Ents P σ ks es) {k : Int} (hk : k ∈ ks) : ∃ t, σ.Has k (some t) := by
  obtain ⟨i, hi⟩ := List.mem_iff_getElem?.mp hk
  obtain ⟨d, hd⟩ := e.of hi
  obtain ⟨k', x, v, t, h1, rfl, h2, h3, h4⟩ := e.at hd
  rw [hi] at h1; cases h1
  exact ⟨t, h3⟩
theorem Sub.has {P : Addr → Obj → Prop} {σ : Sb} {d : Addr} {ks : List Int} (S : Sub P σ d ks) {k : Int} (hk : k ∈ ks) : ∃ t, σ.Has k (some t) := by
  obtain ⟨es, ep, _, he⟩ := S.ex
  exact he.has hk
def NxQ (hb : Heap) (Av : Addr → Prop) (Q : Option Value → Shared → Prop) (s : Shared) : Option Tm → Prop
  | none => ∀ h' tk, Ext s.heap h' → Q none { s with heap := h', toks := tk }
  | some t => ∀ h' tk v, Ext s.heap h' → R (At hb h' Av) v t → Q (some v) { s with heap := h', toks := tk }
section
variable {w : World} {hb : Heap} {A : Around} {s : Shared} {Av : Addr → Prop} {E : Value → Shared → Prop} {σ : Sb} {d : Addr} {ks : List Int}
theorem dget (B : Base w hb) {kv : Value} {t : Tm} {r : Option Tm} (nx : Nx σ t r) (f : Fits A 12) (X : Ext hb s.heap) (hav : ∀ a, Av a → ∃ o, s.heap.get? a = some o) (rk : R (At hb s.heap Av) kv t) (S : Sub (At hb s.heap Av) σ d ks) {Q : Option Value → Shared → Prop}
    (hq : NxQ hb Av Q s r) : wpAny (MG w) A (dictGet d kv) Q E s := by
  have hav' : ∀ {h₁ : Heap}, Ext s.heap h₁ → ∀ a, Av a → ∃ o, h₁.get? a = some o := fun xt a ha => by obtain ⟨o, e⟩ := hav a ha; exact ⟨o, xt _ _ e⟩
  cases nx with
  | @bound k t h =>
    have rng := Has.rng h
    have hk := S.all k t h
    cases rk with
    | @var x dx hs t0 _ tk0 ep a b =>
    refine get_hit B X S (hash_leaf B (f.less (by omega)) X hav (.var a b) (.var rng.1 rng.2)) hk (.inr ⟨_, rfl, .var a b⟩) (b := true) (fun y ry h₁ tk₁ xt Q E hq' => ?_) (fun h' tk v t' xt h' rv => ?_)
    · exact eqb_vv B (s := { s with heap := h₁, toks := tk₁ }) (f.less (by omega)) (X.trans xt) (hav' xt) (At.ext' xt ry) (At.ext' xt (.var a b)) hq'
    · have e := Has.fn h h'
      simp only [Option.some.injEq] at e
      subst e
      exact hq _ _ _ xt rv
  | @free k h =>
    have rng := Has.rng h
    have hno : k ∉ ks := fun hk => by
      obtain ⟨t, h'⟩ := S.has hk
      cases Has.fn h h'
    cases rk with
    | @var x dx hs t0 _ tk0 ep a b =>
    refine get_none S (hash_leaf B (f.less (by omega)) X hav (.var a b) (.var rng.1 rng.2)) hno (.inr ⟨_, _, rfl, a.1, fun k' hk' r' => ?_⟩) hq
    exact hno (var_inj (.var a b) r' ▸ hk')
  | @int i h0 h4 =>
    cases rk with
    | int _ tk =>
    by_cases hk : i ∈ ks
    · refine get_hit B X S (hash_int i tk h0 h4) hk (.inl ⟨i, tk, rfl⟩) (b := false) (fun y ry h₁ tk₁ xt Q E hq' => ?_) (fun h' tk v t' xt h' rv => hq _ _ xt)
      exact eqb_vi B (s := { s with heap := h₁, toks := tk₁ }) (f.less (by omega)) (X.trans xt) (hav' xt) (At.ext' xt ry) hq'
    · exact get_none S (hash_int i tk h0 h4) hk (.inl ⟨i, tk, rfl⟩) hq
  | @tup2 a b h k la lb =>
    cases rk with
    | @tup2 x v1 v2 n _ _ hx p1 p2 =>
    have fi : Fits A.in1 6 := Fits.in1 (f.less (by omega))
    refine get_none S (hash_tup f.cl hx.1 (.cons (hash_leaf (s := s) B fi X hav p1 la) (.cons (hash_leaf (s := s) B fi X hav p2 lb) .nil))) (fun hk => ?_) (.inr ⟨_, _, rfl, hx.1, fun k' hk' r' => ?_⟩) hq
    · obtain ⟨t, h'⟩ := S.has hk
      have rng := Has.rng h'
      obtain ⟨fa, rfl⟩ := la.fin
      obtain ⟨fb, rfl⟩ := lb.fin
      refine nohit2 fa fb ⟨(reduceHash (Builtin.Tuple.tupleHashOf [(fa.val : Int), (fb.val : Int)])).toNat, by omega⟩ ?_
      show _ = ((Int.toNat _ : Nat) : Int)
      omega
    · obtain ⟨o, ho, hc⟩ := var_obj r'
      have e := hx.1.symm.trans ho.1
      simp only [Option.some.injEq] at e
      subst e
      cases hc
  | @tup3 a b h k la lb =>
    cases rk with
    | @tup3 x v1 v2 z n _ _ hx p1 p2 =>
    have fi : Fits A.in1 6 := Fits.in1 (f.less (by omega))
    refine get_none S (hash_tup f.cl hx.1 (.cons (hash_leaf (s := s) B fi X hav p1 la) (.cons (hash_int (s := s) 0 z (by decide) (by decide)) (.cons (hash_leaf (s := s) B fi X hav p2 lb) .nil)))) (fun hk => ?_) (.inr ⟨_, _, rfl, hx.1, fun k' hk' r' => ?_⟩) hq
    · obtain ⟨t, h'⟩ := S.has hk
      have rng := Has.rng h'
      obtain ⟨fa, rfl⟩ := la.fin
      obtain ⟨fb, rfl⟩ := lb.fin
      refine nohit3 fa fb ⟨(reduceHash (Builtin.Tuple.tupleHashOf [(fa.val : Int), 0, (fb.val : Int)])).toNat, by omega⟩ ?_
      show _ = ((Int.toNat _ : Nat) : Int)
      omega
    · obtain ⟨o, ho, hc⟩ := var_obj r'
      have e := hx.1.symm.trans ho.1
      simp only [Option.some.injEq] at e
      subst e
      cases hc
theorem Sub.typeIs {S : Sub (At hb s.heap Av) σ d ks} : s.TypeIs (.ref d) "dict" ∧ hb.get? d = none := by
  obtain ⟨es, ep, hd, _⟩ := S.ex
  exact ⟨⟨_, hd.1, rfl⟩, hd.2.1⟩
theorem in_get (B : Base w hb) {kv : Value} {b : Bool} (S : Sub (At hb s.heap Av) σ d ks) {Q : Value → Shared → Prop} (h : wpAny (MG w) A.in1 (dictGet d kv) (fun r s' => Q (.bool r.isSome) s') E s) : wpAny (MG w) A (compareOp .In kv (.ref d)) Q E s := by
  have hT := (Sub.typeIs (S := S)).1
  have hd := not_mods B (Sub.typeIs (S := S)).2
  show wpAny _ _ (do return .bool (← contains (.ref d) kv)) Q E s
  refine wpAny_bind ?_
  unfold contains
  refine wpAny_holding ?_
  refine wpAny_bind (wpAny_specialOf hT slot_dict_contains.lookup ?_)
  show wpAny _ _ (if (some (Value.builtin "dict.__contains__") == some Value.none) = true then _ else _) _ E s
  rw [if_neg (by rw [beq_builtin_none]; exact Bool.false_ne_true)]
  refine wpAny_bind (wpAny_callSpecialUnlessNone?_slot (name := Str.ofString "__contains__") hT slot_dict_contains
    (wpAny_call_entry slot_dict_contains hT entry_dict_contains ?_ (args_dict_contains _ _)))
  show wpAny _ _ (dictGet d kv >>= _) _ _ s
  refine wpAny_bind (wpAny_mono h (fun r s' hq => ?_) fun _ _ e => e)
  cases r with
  | some v =>
    show wpAny _ _ (ret (.bool true)) _ _ _
    exact wpAny_pure ⟨_, rfl, wpAny_truthy_bool (wpAny_pure hq)⟩
  | none =>
    show wpAny _ _ (Builtin.Dict.pendingKey? d kv >>= _) _ _ _
    exact wpAny_bind (wpAny_pendingKey_other hd (wpAny_pure ⟨_, rfl, wpAny_truthy_bool (wpAny_pure hq)⟩))
theorem item_get {kv : Value} {v : Value} (S : Sub (At hb s.heap Av) σ d ks) {Q : Value → Shared → Prop} (h : wpAny (MG w) A.in1 (dictGet d kv) (fun r s' => ∃ v, r = some v ∧ Q v s') E s) : wpAny (MG w) A (getItem (.ref d) kv) Q E s := by
  have hT := (Sub.typeIs (S := S)).1
  unfold getItem
  refine wpAny_holding ?_
  refine wpAny_bind (wpAny_sequenceKey hT (by decide) ?_)
  refine wpAny_bind (wpAny_callSpecial?_slot (name := Str.ofString "__getitem__") hT slot_dict_getitem
    (wpAny_call_entry slot_dict_getitem hT entry_dict_getitem ?_ (args_dict_getitem _ _)))
  show wpAny _ _ (dictGet d kv >>= _) _ _ s
  refine wpAny_bind (wpAny_mono h (fun r s' hq => ?_) fun _ _ e => e)
  obtain ⟨v, rfl, hq⟩ := hq
  exact wpAny_pure ⟨v, rfl, wpAny_pure hq⟩
end
theorem in_op {w : World} {hb : Heap} (B : Base w hb) {σ : Sb} {d : Addr} {ks : List Int} {kv : Value} {t : Tm} {r : Option Tm} (nx : Nx σ t r) : RO w hb (compareOp .In kv (.ref d)) 13 (fun P => R P kv t ∧ Sub P σ d ks) (fun v _ => v = .bool r.isSome) := by
  intro A s Av f X hav hp Q E hQ
  obtain ⟨rk, S⟩ := hp
  refine in_get (b := true) B S (dget B nx (Fits.in1 f) X hav rk S ?_)
  cases r with
  | none => exact fun h' tk xt => hQ _ _ _ xt rfl
  | some t => exact fun h' tk v xt _ => hQ _ _ _ xt rfl
theorem item_op {w : World} {hb : Heap} (B : Base w hb) {σ : Sb} {d : Addr} {ks : List Int} {kv : Value} {t : Tm} {k : Int} (nx : σ.Has k (some t)) : RO w hb (getItem (.ref d) kv) 13 (fun P => R P kv (.var k) ∧ Sub P σ d ks) (fun v P => R P v t) := by
  intro A s Av f X hav hp Q E hQ
  obtain ⟨rk, S⟩ := hp
  refine item_get (v := .none) S (dget B (.bound nx) (Fits.in1 f) X hav rk S ?_)
  exact fun h' tk v xt rv => ⟨v, rfl, hQ _ _ _ xt rv⟩
end Mine
end
theorem Mine.flush26 : True ∧ True := by
  w_top off
  try (fail_if_success walk1)
  exact ⟨trivial, trivial⟩
section
open PySem PySem.W PyProof.Rows PySem.Spec PySem.Calls PySem.W.X
set_option maxRecDepth 100000
set_option maxHeartbeats 2000000
namespace Mine
theorem lk_list : typeLookup (.type "list") (Str.ofString "__hash__") = pure (some .none) := by rw [typeLookup_type, builtinLookup_eq_fast]; kernel_rfl
theorem lk_dict : typeLookup (.type "dict") (Str.ofString "__hash__") = pure (some .none) := by rw [typeLookup_type, builtinLookup_eq_fast]; kernel_rfl
section
variable {w : World} {A : Around} {s : Shared} {a : Addr} {E : Value → Shared → Prop} {o : Obj}
theorem tn_of {T : String} {Q : String → Shared → Prop} {M : Model} (hT : s.TypeIs (.ref a) T) (hne : (Value.type T == Value.type "builtin_function_or_method") = false) (e : typeName (.type T) = pure T) (h : Q T s) : wpAny M A (PySem.typeNameOf (.ref a)) Q E s := by
  unfold PySem.typeNameOf shownTypeOf
  refine wpAny_bind (wpAny_bind (wpAny_typeOf hT ?_))
  simp only [hne, Bool.false_eq_true, if_false]
  refine wpAny_pure ?_
  rw [e]; exact wpAny_pure h
theorem hash_raise {T : String} (hT : s.TypeIs (.ref a) T) (hu : A.units < cLine) (hh : A.handled = none) (lk : typeLookup (.type T) (Str.ofString "__hash__") = pure (some .none)) (hne : (Value.type T == Value.type "builtin_function_or_method") = false) (e : typeName (.type T) = pure T)
    (hm : ((toString "unhashable type: '" ++ toString T ++ toString "'" : String) : Str).length ≤ sizeLine) {Q : Int → Shared → Prop}
    (h : ∀ h' tk e, Heap.NewExc s.heap h' e "TypeError" → E (.ref e) { s with heap := h', toks := tk }) : wpAny (MG w) A (pyHash (.ref a)) Q E s := by
  unfold pyHash pyHashByItsType
  refine wpAny_bind (wpAny_cRoomFor hu ?_)
  refine wpAny_bind (wpAny_specialOf hT lk ?_)
  rw [if_pos (by rfl)]
  refine wpAny_bind (wpAny_rule ?_)
  refine wpAny_bind (tn_of hT hne e ?_)
  refine wpAny_bind (wpAny_raiseErrorMade plainExc_TypeError hh (fun h' tk e x => ?_) hm)
  exact h h' tk e x
end
inductive Un : Tm → Prop where
  | lst {a b : Tm} : Un (.lst a b)
  | dct {a b : Tm} : Un (.dct a b)
theorem hash_un {w : World} {A : Around} {s : Shared} {E : Value → Shared → Prop} {hb : Heap} {Av : Addr → Prop} {v : Value} {t : Tm} (u : Un t) (r : R (At hb s.heap Av) v t) {n : Nat} (f : Fits A n) {Q : Int → Shared → Prop}
    (h : ∀ h' tk e, Heap.NewExc s.heap h' e "TypeError" → E (.ref e) { s with heap := h', toks := tk }) : wpAny (MG w) A (pyHash v) Q E s := by
  cases u with
  | lst =>
    cases r with
    | lst ha _ _ =>
      refine hash_raise (T := "list") ⟨_, ha.1, rfl⟩ f.cl f.handled lk_list (by decide) (by unfold typeName; rw [find?_eq_fast]; kernel_rfl) (by decide +kernel) h
  | dct =>
    cases r with
    | dct ha _ _ =>
      refine hash_raise (T := "dict") ⟨_, ha.1, rfl⟩ f.cl f.handled lk_dict (by decide) (by unfold typeName; rw [find?_eq_fast]; kernel_rfl) (by decide +kernel) h
theorem in_un {w : World} {hb : Heap} (B : Base w hb) {σ : Sb} {d : Addr} {ks : List Int} {kv : Value} {t : Tm} (u : Un t) {A : Around} {s : Shared} {Av : Addr → Prop} {Q E : Value → Shared → Prop} (f : Fits A 13) (rk : R (At hb s.heap Av) kv t) (S : Sub (At hb s.heap Av) σ d ks)
    (h : ∀ h' tk e, Heap.NewExc s.heap h' e "TypeError" → E (.ref e) { s with heap := h', toks := tk }) : wpAny (MG w) A (compareOp .In kv (.ref d)) Q E s := by
  refine in_get (b := true) B S ?_
  unfold dictGet
  exact wpAny_holding (wpAny_bind (hash_un u rk (Fits.in1 f) h))
end Mine
end
theorem Mine.flush27 : True ∧ True := by
  w_top off
  try (fail_if_success walk1)
  exact ⟨trivial, trivial⟩
section
open PySem PySem.W PyProof.Rows PySem.Spec PySem.Calls PySem.W.X
set_option maxRecDepth 100000
set_option maxHeartbeats 2000000
namespace Mine
/-- an exception on its way, since h₀ -/
structure Tr (base h₀ : Heap) (l : List Env) (e : Addr) (cls fl : Value) (h : Heap) : Prop where
  st : base.StaysIn h
  en : base.get? e = none
  ff : h.FunFrames base l
  tr : ∃ a0, h.TracedAtW base e cls a0 fl
  up : h₀.UpToSlots h
section
variable {M : Model} {A : Around} {E : Value → Shared → Prop} {s : Shared} {base h₀ : Heap} {l : List Env} {e L : Addr} {cls fl : Value} {env : Env} {outer : List Env}
theorem Tr.ext {h h' : Heap} (T : Tr base h₀ l e cls fl h) (x : Ext h h') : Tr base h₀ l e cls fl h' := by
  obtain ⟨a0, oe, vs, Tb, oT, ts, he, hc, hd, h1, hn, hne, hT, hdT, h3⟩ := T.tr
  exact ⟨fun b o q => x _ _ (T.st b o q), T.en, T.ff.of_keeps fun b o q _ => ⟨o, x _ _ q, rfl⟩, ⟨a0, oe, vs, Tb, oT, ts, x _ _ he, hc, hd, h1, hn, hne, x _ _ hT, hdT, h3⟩, T.up.trans (.of_keeps x)⟩
theorem Tr.typeOf {Q : Value → Shared → Prop} (T : Tr base h₀ l e cls fl s.heap) (h : Q cls s) : wpAny M A (typeOf (.ref e)) Q E s := by
  obtain ⟨a0, oe, vs, Tb, oT, ts, he, hc, _⟩ := T.tr
  refine wpAny_typeOf_ref he ?_
  rw [hc.1]; exact h
theorem Tr.tb {Q : Value → Shared → Prop} (T : Tr base h₀ l e cls fl s.heap) (h : ∀ v, Q v s) : wpAny M A (tracebackOf (.ref e)) Q E s := by
  obtain ⟨a0, oe, vs, Tb, oT, ts, he, hc, hd, h1, hn, hne, hT, hdT, h3⟩ := T.tr
  have hs : 1 < ts.size := Nat.lt_trans (by decide) (Array.getElem?_eq_some_iff.mp h3).1
  unfold tracebackOf
  refine wpAny_bind (wpAny_field he hd h1 ?_)
  dsimp only
  refine wpAny_bind (wpAny_field hT hdT (Array.getElem?_eq_getElem hs) ?_)
  split
  · exact wpAny_pure (h _)
  · exact wpAny_pure (h _)
theorem Tr.flight {fo : Option Addr} {Q : Unit → Shared → Prop} (T : Tr base h₀ l e cls fl s.heap) (h : ∀ h', Tr base h₀ l e cls (fo.elim .none fun f => rawInt f) h' → Q () { s with heap := h' }) : wpAny M A (setFlight (.ref e) fo) Q E s := by
  obtain ⟨hkb, hen, hl, ⟨a0, oe, vs, T, oT, ts, he, hcls, hd, h1, hnT, hTe, hT, hdT, h3⟩, up⟩ := T
  have hsz3 : 3 < ts.size := (Array.getElem?_eq_some_iff.mp h3).1
  have other : ∀ b, b ≠ T → (s.heap.update T (Obj.mapFields (·.setIfInBounds 3 (fo.elim Value.none fun f => rawInt f)))).get? b = s.heap.get? b :=
    fun b hb => Heap.get?_update_other _ _ (Ne.symm hb)
  have noRecord : ∀ b o, s.heap.get? b = some o → (∀ vs, o.data ≠ .fields vs) → b ≠ T := fun b o hb hnf q => by
    rw [q, hT] at hb; injection hb with hb; subst hb; exact hnf ts hdT
  unfold setFlight
  refine wpAny_bind (wpAny_field he hd h1 ?_)
  rw [if_pos (show (Value.ref T != Value.none) = true from by simp)]
  refine wpAny_setField hT hdT hsz3 (h _ ⟨fun b o hbo => (other b fun q => by rw [q, hnT] at hbo; cases hbo).trans (hkb b o hbo), hen,
    hl.of_keeps fun b o hb hnf => ⟨o, (other b (noRecord b o hb hnf)).trans hb, rfl⟩, ⟨a0, ?_⟩, up.trans fun b o hb hnf => ⟨o.slots, (other b (noRecord b o hb hnf)).trans hb⟩⟩)
  exact ⟨oe, vs, T, _, _, (other e (Ne.symm hTe)).trans he, hcls, hd, h1, hnT, hTe, Heap.get?_update_self _ hT (Obj.isFreed_of_fields (Obj.data_mapFields hdT _)), Obj.data_mapFields hdT _, by simp [hsz3]⟩
theorem Tr.again {Q : Unit → Shared → Prop} (hf : env.frame = some L) (T : Tr base h₀ l e cls (rawInt L) s.heap) (h : Q () s) : wpAny M A (noteFrame (.ref e) env) Q E s := by
  obtain ⟨a0, t⟩ := T.tr
  exact wpAny_noteFrame_againW hf t h
/-- the frame where it is raised -/
theorem Tr.first {cn : String} {Q : Unit → Shared → Prop} (hfr : A.frames = some (env :: outer)) (hf : env.frame = some L) (hkb : base.StaysIn h₀) (hl : h₀.FunFrames base (env :: outer)) (x : Heap.NewExc h₀ s.heap e cn)
    (h : ∀ h', Tr base h₀ (env :: outer) e (.type cn) (rawInt L) h' → Q () { s with heap := h' }) : wpAny M A (noteFrame (.ref e) env) Q E s := by
  obtain ⟨ob, t, he, hc, hd⟩ := x.there
  have hkb' : base.StaysIn s.heap := fun b o q => x.keeps _ _ (hkb b o q)
  have hen : base.get? e = none := by
    cases q : base.get? e with
    | none => rfl
    | some o => have := hkb e o q; rw [x.new] at this; cases this
  have hl' : s.heap.FunFrames base (env :: outer) := hl.of_keeps fun b o q _ => ⟨o, x.keeps _ _ q, rfl⟩
  unfold noteFrame
  simp only [hf]
  refine wpAny_bind (wpAny_field he hd (x := .none) rfl ?_)
  rw [if_neg (by decide)]
  refine wpAny_entryW (base := base) hfr hl' hf he hkb' hen hd (by simp) (a0 := t) rfl fun h' N => ?_
  obtain ⟨n1, n2, n3, n4⟩ := N
  exact h h' ⟨n1, hen, n2, ⟨t, by rw [← hc]; exact n3⟩, (Heap.UpToSlots.of_keeps x.keeps).trans n4⟩
end
/-- the heap without X -/
def dropX (h : Heap) (X : List Addr) : Heap := { h with objs := h.objs.mapIdx fun i o => if i ∈ X then { o with data := .freed } else o }
theorem dropX_get {h : Heap} {X : List Addr} {b : Addr} : (dropX h X).get? b = if b ∈ X then none else h.get? b := by
  unfold dropX Heap.get?
  simp only [Array.getElem?_mapIdx]
  by_cases hb : b ∈ X
  · rw [if_pos hb]
    cases h.objs[b]? with
    | none => rfl
    | some o => simp [hb]
  · rw [if_neg hb]
    cases h.objs[b]? with
    | none => rfl
    | some o => simp [hb]
theorem dropX_some {h : Heap} {X : List Addr} {b : Addr} {o : Obj} : (dropX h X).get? b = some o ↔ b ∉ X ∧ h.get? b = some o := by
  rw [dropX_get]
  by_cases hb : b ∈ X
  · simp [hb]
  · simp [hb]
theorem Tr.extS {h₀ h : Heap} {l : List Env} {e : Addr} {cls fl : Value} {hb : Heap} (T : Tr (dropX h₀ (frs l)) h₀ l e cls fl h) (FF : h₀.FunFrames hb l) : ExtS (frs l) h₀ h := fun b o q =>
  ⟨fun hn => T.st b o (dropX_some.mpr ⟨hn, q⟩), fun hm => T.up b o q (by
    obtain ⟨_, o', ho', hd⟩ := FF.mem hm
    rw [q] at ho'; cases ho'; exact hd)⟩
theorem dropX_stays {h : Heap} {X : List Addr} : (dropX h X).StaysIn h := fun _ _ e => (dropX_some.mp e).2
theorem dropX_frames {h hb : Heap} {l : List Env} (FF : h.FunFrames hb l) : h.FunFrames (dropX h (frs l)) l := by
  have : ∀ (l' : List Env) (S : List Addr), (∀ a ∈ frs l', a ∈ S) → h.FunFrames hb l' → h.FunFrames (dropX h S) l' := by
    intro l'
    induction l' with
    | nil => intro S _ _; trivial
    | cons env rest ih =>
      intro S hS F
      obtain ⟨hk, ⟨L, o, hf, hn, ho, hd⟩, hr⟩ := F
      have e : frs (env :: rest) = L :: frs rest := by
        show List.filterMap _ _ = _
        rw [List.filterMap_cons, hf]
      refine ⟨hk, ⟨L, o, hf, ?_, ho, hd⟩, ih S (fun a ha => hS a (by rw [e]; exact .tail _ ha)) hr⟩
      rw [dropX_get, if_pos (hS L (by rw [e]; exact .head _))]
  exact this l _ (fun _ h => h) FF
end Mine
end
theorem Mine.flush28 : True ∧ True := by
  w_top off
  try (fail_if_success walk1)
  exact ⟨trivial, trivial⟩
section
open PySem PySem.W PyProof.Rows PySem.Spec PySem.Calls PySem.W.X
set_option maxRecDepth 100000
set_option maxHeartbeats 2000000
set_option linter.unusedVariables false
namespace Mine
abbrev excDict (hs : Int) (t : Tok) (tp : Addr) (ep : Nat) : Obj := { cls := .type "dict", data := .dict #[⟨hs, .str ⟨#[95, 101, 120, 99, 101, 112, 116, 105, 111, 110, 115]⟩ t, .ref tp⟩] ep }
/-- an instance of suppress(TypeError) -/
inductive SuppI (P : Addr → Obj → Prop) : Value → Prop where
  | mk {x dx tp : Addr} {hs : Int} {t : Tok} {ep n : Nat} : P x (instObj 135 dx) → P dx (excDict hs t tp ep) → P tp (tupObj [.type "TypeError"] n) → SuppI P (.ref x)
local macro_rules | `(tactic| x_close) => `(tactic| (refine x_done (by assumption) (by assumption) ?_; refine' SuppI.mk (at_of (by assumption) (by assumption) (by assumption) ?m1) (at_of (by assumption) (by assumption) (by assumption) ?m2) (at_of (by assumption) (by assumption) (by assumption) ?m3); (case m1 => k_mem); (case m2 => k_mem); (case m3 => k_mem)))
theorem supp_raw {w : World} {s : Shared} {hb : Heap} {Av : Addr → Prop} : (hd.heap_39 w.params).In s.heap → ∀ (x : Ext hb s.heap) (hav : ∀ a, Av a → ∃ o, s.heap.get? a = some o) (Q E : Value → Shared → Prop)
  (hQ : ∀ v h' tk, Ext s.heap h' → SuppI (At hb h' Av) v → Q v { s with heap := h', toks := tk }),
   wpAny (model PySem.Challenge.rw_fe0177_01.prog w) A0 (call (.ref 135) [.type "TypeError"]) Q E s := by
  k_fill
  intro KX x hav Q E hQ
  x_run
theorem ex_done {s : Shared} {h' : Heap} {news : List (Addr × Obj)} {Q : Value → Shared → Prop} {v : Value} {tk : Nat}
    (hQ : ∀ h' tk, Ext s.heap h' → Q v { s with heap := h', toks := tk }) (D : Mem s.heap h' [] news) : Q v ⟨h', s.gens, s.drawn, tk, s.os⟩ := hQ h' tk (ext_of D)
local macro_rules | `(tactic| x_close) => `(tactic| (first | exact ex_done (by assumption) (by assumption)))
theorem enter_raw {w : World} {s : Shared} : (hd.heap_39 w.params).In s.heap → ∀ (x : Addr) (Q E : Value → Shared → Prop)
  (hQ : ∀ h' tk, Ext s.heap h' → Q .none { s with heap := h', toks := tk }),
   wpAny (model PySem.Challenge.rw_fe0177_01.prog w) A0 (call (.ref 125) [.ref x]) Q E s := by
  k_fill
  intro KX x Q E hQ
  x_run
theorem exit_raw0 {w : World} {s : Shared} : (hd.heap_39 w.params).In s.heap → ∀ (x : Addr) (Q E : Value → Shared → Prop)
  (hQ : ∀ h' tk, Ext s.heap h' → Q .none { s with heap := h', toks := tk }),
   wpAny (model PySem.Challenge.rw_fe0177_01.prog w) A0 (call (.ref 132) [.ref x, .none, .none, .none]) Q E s := by
  k_fill
  intro KX x Q E hQ
  x_run
theorem exit_raw1 {w : World} {s : Shared} : (hd.heap_39 w.params).In s.heap → ∀ (x dx tp e : Addr) (hs : Int) (t : Tok) (ep n : Nat) (tb : Value) (hx : s.heap.get? x = some { cls := .ref 135, dict := some dx, data := .plain })
   (hdx : s.heap.get? dx = some { cls := .type "dict", data := .dict #[⟨hs, .str ⟨#[95, 101, 120, 99, 101, 112, 116, 105, 111, 110, 115]⟩ t, .ref tp⟩] ep }) (htp : s.heap.get? tp = some { cls := .type "tuple", data := .seq #[.type "TypeError"] n }) (Q E : Value → Shared → Prop)
  (hQ : ∀ h' tk, Ext s.heap h' → Q (.bool true) { s with heap := h', toks := tk }),
   wpAny (model PySem.Challenge.rw_fe0177_01.prog w) A0 (withItem.marked (.ref e) (.call (.ref 132) ⟨[.ref x, .type "TypeError", .ref e, tb], []⟩)) Q E s := by
  k_fill
  intro KX x dx tp e hs t ep n tb hx hdx htp Q E hQ
  x_run
end Mine
end
theorem Mine.flush29 : True ∧ True := by
  w_top off
  try (fail_if_success walk1)
  exact ⟨trivial, trivial⟩
section

open PySem PySem.W PyProof.Rows PySem.Spec PySem.Calls PySem.W.X
set_option maxRecDepth 100000
set_option maxHeartbeats 2000000
namespace Mine
theorem find_enter (w : World) : findIn (hd.heap_39 w.params) (.ref 135) (Str.ofString "__enter__") = some (some (.ref 125)) := by kernel_rfl
theorem find_exit (w : World) : findIn (hd.heap_39 w.params) (.ref 135) (Str.ofString "__exit__") = some (some (.ref 132)) := by kernel_rfl
theorem fn_125 (w : World) : isFn (hd.heap_39 w.params) (.ref 125) = true := by kernel_rfl
theorem fn_132 (w : World) : isFn (hd.heap_39 w.params) (.ref 132) = true := by kernel_rfl
section
variable {w : World} {A : Around} {E : Value → Shared → Prop} {s : Shared} {env : Env} {x : Addr} {ox : Obj} {od : Option Obj} {pos : Pos}
theorem with_X {bdy : Sem Flow} {Q : Flow → Shared → Prop} (X : (hd.heap_39 w.params).In s.heap) (I : InstAt s.heap x ox 135 od)
    (h : wpAny (MG w) A (call (.ref 125) [.ref x]) (fun v s₂ => wpAny (MG w) A bdy (fun f s₄ => wpAny (MG w) A (call (.ref 132) [.ref x, .none, .none, .none]) (fun _ s₅ => Q f s₅) E s₄)
      (fun e s₄ => (∃ a, e = .ref a) ∧ wpAny (MG w) A (noteFrame e env) (fun _ s₅ => wpAny (MG w) A (setFlight e none) (fun _ s₆ => wpAny (MG w) A (typeOf e) (fun t s₇ => wpAny (MG w) A (tracebackOf e) (fun tb s₈ =>
        wpAny (MG w) A (withItem.marked e (.call (.ref 132) ⟨[.ref x, t, e, tb], []⟩)) (fun r s₉ => r = .bool true ∧ wpAny (MG w) A (setFlight e none) (fun _ s' => Q .next s') E s₉) E s₈) E s₇) E s₆) E s₅) E s₄) s₂) E s) :
    wpAny (MG w) A (withItem false pos env (pure (.ref x)) none bdy) Q E s := by
  obtain ⟨cd, hcd, ae⟩ := kw_along (find_enter w)
  obtain ⟨cd', hcd', ax⟩ := kw_along (find_exit w)
  cases hcd.symm.trans hcd'
  obtain ⟨hh, g, d, tt, os⟩ := s
  have L1 : Looks (MG w) hh (specialOnItsLine (.ref x) "__enter__") (some (.ref 125), cd.mro) := kw_special X I hcd ae
  have L2 : Looks (MG w) hh (specialOnItsLine (.ref x) "__exit__") (some (.ref 132), cd.mro) := kw_special X I hcd ax
  have L3 : Looks (MG w) hh (bindSpecial (.ref 125) (.ref x)) (.ref 125, [.ref x]) := bind_fn X _ (beq_iff_eq.mp (fn_125 w))
  have L4 : Looks (MG w) hh (bindSpecial (.ref 132) (.ref x)) (.ref 132, [.ref x]) := bind_fn X _ (beq_iff_eq.mp (fn_132 w))
  have L5 : Looks (MG w) hh (aMethodOfAnotherBuiltinTypeStops (.ref 125) cd.mro) () := Looks.of_pure rfl
  have L6 : Looks (MG w) hh (aMethodOfAnotherBuiltinTypeStops (.ref 132) cd.mro) () := Looks.of_pure rfl
  unfold withItem
  refine wpAny_bind (wpAny_pure ?_)
  refine wpAny_bind (wpAny_standAt ?_)
  simp only [Bool.false_eq_true, if_false]
  kw_lk
  refine wpAny_mono h (fun v s₂ h₂ => ?_) fun _ _ z => z
  kw_lk
  refine wpAny_attempt (kw_held ?_)
  show wpAny _ _ bdy _ _ _
  refine wpAny_mono h₂ (fun f s₄ h₄ => ?_) fun e s₄ h₄ => ?_
  · kw_lk
    refine wpAny_mono h₄ (fun _ s₅ h₅ => ?_) fun _ _ z => z
    kw_lk
    exact h₅
  · obtain ⟨⟨ea, rfl⟩, h₄⟩ := h₄
    dsimp only
    refine wpAny_bind (wpAny_mono h₄ (fun _ s₅ h₅ => ?_) fun _ _ z => z)
    refine wpAny_bind (wpAny_mono h₅ (fun _ s₆ h₆ => ?_) fun _ _ z => z)
    refine wpAny_bind (wpAny_standAt (wpAny_holding ?_))
    refine wpAny_bind (wpAny_mono h₆ (fun t s₇ h₇ => ?_) fun _ _ z => z)
    refine wpAny_bind (wpAny_mono h₇ (fun tb s₈ h₈ => ?_) fun _ _ z => z)
    refine wpAny_bind ?_
    refine wpAny_mono h₈ (fun r s₉ h₉ => ?_) fun _ _ z => z
    obtain ⟨rfl, h₉⟩ := h₉
    refine wpAny_bind (wpAny_pure ?_)
    dsimp only
    refine wpAny_bind (wpAny_pure ?_)
    rw [if_pos rfl]
    refine wpAny_bind (wpAny_rule (wpAny_bind (wpAny_mono h₉ (fun _ s' hq => wpAny_pure hq) fun _ _ z => z)))
end
end Mine
end
theorem Mine.flush30 : True ∧ True := by
  w_top off
  try (fail_if_success walk1)
  exact ⟨trivial, trivial⟩
section
open PySem PySem.W PyProof.Rows PySem.Spec PySem.Calls PySem.W.X
set_option maxRecDepth 100000
set_option maxHeartbeats 1000000
namespace Mine
/-- to the end of a chain -/
inductive Ch (σ : Sb) : Nat → Tm → Tm → Prop where
  | stop {n : Nat} {t : Tm} : Nx σ t none → Ch σ n t t
  | un {n : Nat} {t : Tm} : Un t → Ch σ n t t
  | step {n : Nat} {k : Int} {t u : Tm} : σ.Has k (some t) → Ch σ n t u → Ch σ (n + 1) (.var k) u
theorem supp_new {w : World} {hb : Heap} (B : Base w hb) : RC w hb (.ref 135) [.type "TypeError"] 3 (fun _ => True) (fun v P => SuppI P v) :=
  fun _ _ _ f x hav _ _ _ hQ => wpAny_A0 f (supp_raw (B.kx.keeps x) x hav _ _ hQ)
theorem enter_new {w : World} {hb : Heap} (B : Base w hb) (x : Addr) : RC w hb (.ref 125) [.ref x] 3 (fun _ => True) (fun v _ => v = .none) :=
  fun _ _ _ f X hav _ _ _ hQ => wpAny_A0 f (enter_raw (B.kx.keeps X) x _ _ fun h' tk xt => hQ _ _ _ xt rfl)
theorem exit_new {w : World} {hb : Heap} (B : Base w hb) (x : Addr) : RC w hb (.ref 132) [.ref x, .none, .none, .none] 3 (fun _ => True) (fun v _ => v = .none) :=
  fun _ _ _ f X hav _ _ _ hQ => wpAny_A0 f (exit_raw0 (B.kx.keeps X) x _ _ fun h' tk xt => hQ _ _ _ xt rfl)
theorem mono_supp : ∀ v : Value, ∀ P P' : Addr → Obj → Prop, (∀ a o, P a o → P' a o) → SuppI P v → SuppI P' v := fun v P P' h s => by
  cases s with
  | mk a b c => exact .mk (h _ _ a) (h _ _ b) (h _ _ c)
theorem mono_c {p : Value → Prop} : ∀ v : Value, ∀ P P' : Addr → Obj → Prop, (∀ a o, P a o → P' a o) → p v → p v := fun _ _ _ _ h => h
theorem kwin_X {w : World} {A : Around} {E : Value → Shared → Prop} {s : Shared} {env : Env} {x : Addr} {ox : Obj} {od : Option Obj} {p py : Pos} {body : List Stmt} {Q : Flow → Shared → Prop} (X : (hd.heap_39 w.params).In s.heap) (I : InstAt s.heap x ox 135 od)
    (h : wpAny (MG w) A (call (.ref 125) [.ref x]) (fun v s₂ => wpAny (MG w) A (execs body env) (fun f s₄ => wpAny (MG w) A (call (.ref 132) [.ref x, .none, .none, .none]) (fun _ s₅ => Q f s₅) E s₄)
      (fun e s₄ => (∃ a, e = .ref a) ∧ wpAny (MG w) A (noteFrame e env) (fun _ s₅ => wpAny (MG w) A (setFlight e none) (fun _ s₆ => wpAny (MG w) A (typeOf e) (fun t s₇ => wpAny (MG w) A (tracebackOf e) (fun tb s₈ =>
        wpAny (MG w) A (withItem.marked e (.call (.ref 132) ⟨[.ref x, t, e, tb], []⟩)) (fun r s₉ => r = .bool true ∧ wpAny (MG w) A (setFlight e none) (fun _ s' => Q .next s') E s₉) E s₈) E s₇) E s₆) E s₅) E s₄) s₂) E s) :
    KwIn PySem.Challenge.rw_fe0177_01.prog w A E env p none py body Q (.ref x) s := with_X X I h
def TGetC (w : World) (hb : Heap) (σ : Sb) (d : Addr) (ks : List Int) (n : Nat) (key : Value) (t u : Tm) : Prop := RCF w hb (.ref 146) [key, .ref d] 40 (fun P => R P key t ∧ Sub P σ d ks) (fun v P => R P v u ∧ (Nx σ t none → v = key))
local macro_rules | `(tactic| walk_at "call ref cons nil") => `(tactic| (refine RC.useF (supp_new (by assumption)) [] (by assumption) (by assumption) (fun _ _ h => nomatch h) (Wk.toF (by assumption) (by assumption)) (Fits.go (by assumption) (by omega)) (by assumption) trivial mono_true mono_supp ?_; intro v9 h9 t9 D9 F9 N9 o9 s9 W9 p9; walk_say "SUPP"))
local macro_rules | `(tactic| walk_at "exec While Compare cons nil") => `(tactic| (refine wpAny_While ?_; walk_say "WHILE"))
def tgm (kv : Value) (d : Addr) : Str → Option Value := fun y => if y = Str.ofString "key" then some kv else if y = Str.ofString "d" then some (.ref d) else none
theorem tgm_of {hb h : Heap} {L d : Addr} {kv : Value} (F : Fr hb L h (fun y => [(Str.ofString "key", kv), (Str.ofString "d", Value.ref d)].reverse.lookup y)) : Fr hb L h (tgm kv d) := by
  have e : (fun y => [(Str.ofString "key", kv), (Str.ofString "d", Value.ref d)].reverse.lookup y) = tgm kv d := by
    funext y
    show List.lookup y [(Str.ofString "d", Value.ref d), (Str.ofString "key", kv)] = _
    unfold tgm
    by_cases h1 : y = Str.ofString "key"
    · subst h1
      rw [if_pos rfl]
      rfl
    · rw [if_neg h1]
      by_cases h2 : y = Str.ofString "d"
      · subst h2
        rw [if_pos rfl]
        rfl
      · rw [if_neg h2]
        simp [List.lookup, beq_eq_false_iff_ne.mpr h1, beq_eq_false_iff_ne.mpr h2]
  rw [e] at F
  exact F
def TGI (hb : Heap) (s : Shared) (L : Addr) (Av : Addr → Prop) (outer : List Env) (σ : Sb) (d : Addr) (ks : List Int) (u : Tm) (x dx tp : Addr) (hs : Int) (t0 : Tok) (ep nn : Nat) (key : Value) (t : Tm) (n : Nat) (s' : Shared) : Prop :=
  ∃ h tk kv t' D', s' = { s with heap := h, toks := tk } ∧ Fr hb L h (tgm kv d) ∧ News hb L h D' ∧ WkF hb s.heap Av (frs outer) L D' ∧ R (PD D' Av) kv t' ∧ Sub (PD D' Av) σ d ks ∧
    PD D' Av x (instObj 135 dx) ∧ PD D' Av dx (excDict hs t0 tp ep) ∧ PD D' Av tp (tupObj [.type "TypeError"] nn) ∧ Ch σ n t' u ∧ ((t' = t ∧ kv = key) ∨ ∃ k t2, t = .var k ∧ σ.Has k (some t2))
theorem tg_same {σ : Sb} {t t' : Tm} {kv key : Value} (hor : (t' = t ∧ kv = key) ∨ ∃ k t2, t = .var k ∧ σ.Has k (some t2)) : Nx σ t none → kv = key := fun nx => by
    rcases hor with ⟨_, e⟩ | ⟨k, t2, e, hk⟩
    · exact e
    · subst e
      cases nx with
      | free h => cases Has.fn h hk
theorem mono_RS {kv : Value} {t : Tm} {σ : Sb} {d : Addr} {ks : List Int} : ∀ P P' : Addr → Obj → Prop, (∀ a o, P a o → P' a o) → (R P kv t ∧ Sub P σ d ks) → (R P' kv t ∧ Sub P' σ d ks) := fun _ _ h r => ⟨r.1.mono h, r.2.mono h⟩
theorem sub_op {w : World} {hb : Heap} (B : Base w hb) {σ : Sb} {d : Addr} {ks : List Int} {kv : Value} {t : Tm} {k : Int} (nx : σ.Has k (some t)) {value slice : PySem.Expr}
    (hs : subscripted slice false (.ref d) kv = operate [.ref d, kv] (getItem (.ref d) kv)) (hg : ∀ r, letTemporaryGo value (.ref d) r = pure ()) : RO w hb (subscriptTail value slice (.ref d) kv) 13 (fun P => R P kv (.var k) ∧ Sub P σ d ks) (fun v P => R P v t) := by
  intro A s Av f X hav hp Q E hQ
  exact subscriptTail_builtin (T := "dict") (Sub.typeIs (S := hp.2)).1 slot_dict_getitem.lookup (item_op B nx A s Av f X hav hp Q E hQ) hs hg
theorem un_go {M : Model} {A : Around} {hb h h1 : Heap} {env : Env} {outer : List Env} {L e : Addr} {m : Str → Option Value} {cn : String} {g : Array GenState} {d : Drawn} {tk : Nat} {os : OsState} {Q : Unit → Shared → Prop} {E : Value → Shared → Prop} (O : Own hb env L) (F : Fr hb L h m) (hA : A.frames = some (env :: outer)) (FFh : h.FunFrames hb outer) (ne : Heap.NewExc h h1 e cn)
    (K : ∀ h2, Tr (dropX h (frs (env :: outer))) h (env :: outer) e (.type cn) (rawInt L) h2 → Q () ⟨h2, g, d, tk, os⟩) : wpAny M A (noteFrame (.ref e) env) Q E ⟨h1, g, d, tk, os⟩ :=
  Tr.first (s := ⟨h1, g, d, tk, os⟩) hA O.frame dropX_stays (dropX_frames (O.frames F FFh)) ne K
theorem tgm_set {hb h : Heap} {L d : Addr} {kv v : Value} (F : Fr hb L h (fun z => if z = Str.ofString "key" then some v else tgm kv d z)) : Fr hb L h (tgm v d) := by
  have e : (fun z => if z = Str.ofString "key" then some v else tgm kv d z) = tgm v d := by
    funext y
    unfold tgm
    by_cases h1 : y = Str.ofString "key"
    · rw [if_pos h1, if_pos h1]
    · rw [if_neg h1, if_neg h1, if_neg h1]
  rw [e] at F
  exact F
theorem came_back {M : Model} {A : Around} {E : Value → Shared → Prop} {s : Shared} {base h₀ : Heap} {l : List Env} {e L : Addr} {cls fl : Value} {env : Env} (T : Tr base h₀ l e cls fl s.heap) (hf : env.frame = some L) (K : ∀ h', Tr base h₀ l e cls (rawInt L) h' → E (.ref e) { s with heap := h' }) : cameBackBy M A env E (.ref e) s := by
  unfold cameBackBy
  rw [hf]
  obtain ⟨a0, oe, vs, Tb, oT, ts, he, hc, hd, h1, _⟩ := T.tr
  refine wpAny_bind (wpAny_field he hd h1 ?_)
  rw [if_neg (by simp)]
  exact Tr.flight T K
local macro_rules | `(tactic| walk_at "Exists") => `(tactic| (refine ⟨_, Nat.lt_succ_self _, ?_⟩; walk_say "TURN"))
theorem ExtS.drop {S : List Addr} {L : Addr} {a h c : Heap} (x : ExtS S a h) (y : ExtS (L :: S) h c) (hL : a.get? L = none) : ExtS S a c := fun b o e => by
  have hbL : b ≠ L := fun q => by rw [q, hL] at e; cases e
  refine ⟨fun hb => (y b o ((x b o e).1 hb)).1 fun m => (List.mem_cons.mp m).elim hbL hb, fun hb => ?_⟩
  obtain ⟨sl, e1⟩ := (x b o e).2 hb
  obtain ⟨sl2, e2⟩ := (y b _ e1).2 (.tail _ hb)
  exact ⟨sl2, e2⟩
theorem tr_x {hb h h2 : Heap} {env : Env} {outer : List Env} {L e : Addr} {m : Str → Option Value} {cls fl : Value} (T : Tr (dropX h (frs (env :: outer))) h (env :: outer) e cls fl h2) (hf : env.frame = some L) (hk : env.scope.kind ≠ .module) (F : Fr hb L h m) (FFh : h.FunFrames hb outer) : ExtS (L :: frs outer) h h2 := by
  have O : Own hb env L := ⟨hf, hk, F.above⟩
  have := T.extS (O.frames F FFh)
  rw [O.frs] at this
  exact this
theorem tget_new {w : World} {hb : Heap} (B : Base w hb) {σ : Sb} {d : Addr} {ks : List Int} {n : Nat} {key : Value} {t u : Tm} (hch : Ch σ n t u) : TGetC w hb σ d ks n key t u := by
  unfold TGetC RCF
  have KX := B.kx
  revert KX
  k_fill
  intro KX A s Av outer fit hfr FF hAv X hav hp Q E hQ
  obtain ⟨hr, hv⟩ := hp
  obtain ⟨mean, mg, mb, T⟩ := B.top
  have hSn : ∀ a ∈ frs outer, hb.get? a = none := fun a ha => FunFrames.none FF ha
  refine wpAny_call ?_
  k_dflt (refine' enter (binds := [(Str.ofString "key", key), (Str.ofString "d", .ref d)]) B X hav ?k6 ?k7 fit.room ?k9 ?kB ?c2 ?c3 ?c4 ?c5 ?_; (case k6 => k_is); (case k7 => k_is); (case k9 => exact BindsTo.of_eq rfl); (case c5 => decide); (case kB => exact locs rfl); (case c2 => exact rfl); (case c3 => exact rfl); (case c4 => exact rfl); k_whole)
  intro L h₁ D F N l1 W
  dsimp only
  k_fold
  k_steps
  rename_i v9 h9 t9 D9 F9 N9 o9 s9 W9 p9
  have hr9 := (hr.mono fun _ _ y => (PD.sub s9 (W.pd y)))
  have hv9 := (hv.mono fun _ _ y => (PD.sub s9 (W.pd y)))
  cases p9 with
  | @mk x dx tp hs t0 ep nn px pdx ptp =>
  refine kwin_X (B.kx.keeps F9.keep) (od := some (excDict hs t0 tp ep)) ⟨(N9 _ px.1).1, rfl, rfl, (N9 _ pdx.1).1⟩ ?_
  refine RC.useF (enter_new B x) [] F9 N9 (fun _ _ h => nomatch h) W9 (Fits.go fit (by omega)) FF trivial mono_true mono_c ?_
  intro v8 h8 t8 D8 F8 N8 o8 s8 W8 p8
  k_fold
  k_steps
  refine codeAny_whileLoop (TGI hb s L Av outer σ d ks u x dx tp hs t0 ep nn key t) (fun n' s' hI => ?_) n ⟨h8, t8, key, t, D8, rfl, tgm_of F8, N8, W8, hr9.mono fun _ _ => PD.sub s8, hv9.mono fun _ _ => PD.sub s8, PD.sub s8 px, PD.sub s8 pdx, PD.sub s8 ptp, hch, .inl ⟨rfl, rfl⟩⟩
  obtain ⟨h, tk, kv, t', D', rfl, F', N', W', rk, S', qx, qdx, qtp, ch, hor⟩ := hI
  cases ch with
  | stop nx =>
    dsimp only
    k_fold
    k_steps
    refine RO.useF (in_op B nx) [] F' N' (fun _ _ h => nomatch h) W' (Fits.go fit (by omega)) FF ⟨rk, S'⟩ mono_RS mono_c ?_
    intro v7 h7 t7 D7 F7 N7 o7 s7 W7 p7
    subst p7
    dsimp only [Option.isSome]
    k_steps
    refine RC.useF (exit_new B x) [] F7 N7 (fun _ _ h => nomatch h) W7 (Fits.go fit (by omega)) FF trivial mono_true mono_c ?_
    intro v6 h6 t6 D6 F6 N6 o6 s6 W6 p6
    k_steps
    refine hQ _ _ _ (W6.done hSn F6 N6) ?_
    exact ⟨rk.mono fun _ _ y => PD.at N6 (PD.sub s6 (PD.sub s7 y)), tg_same hor⟩
  | un un =>
    dsimp only
    k_fold
    k_steps
    refine in_un B un (Fits.go fit (by omega)) (rk.mono fun _ _ y => PD.at N' y) (S'.mono fun _ _ y => PD.at N' y) fun h1 tk1 e ne => ?_
    refine un_go (outer := outer) ?O F' ?hA (W'.frames hSn F' N' FF) ne fun h2 T2 => ?_
    case O => exact ⟨rfl, fun q => (nomatch q), F'.above⟩
    case hA => show A.frames.map _ = _; rw [hfr]; rfl
    refine came_back T2 rfl fun h3 T3 => ?_
    refine ⟨⟨e, rfl⟩, ?_⟩
    refine Tr.again rfl T3 ?_
    refine Tr.flight T3 fun h4 T4 => ?_
    refine Tr.typeOf T4 ?_
    refine Tr.tb T4 fun tb => ?_
    have x4 : ExtS (L :: frs outer) h h4 := tr_x T4 rfl (fun q => nomatch q) F' (W'.frames hSn F' N' FF)
    have off : ∀ {D₀ : List (Addr × Obj)} {a : Addr} {o : Obj}, News hb L h D₀ → PD D₀ Av a o → a ∉ L :: frs outer := fun N₀ y q => (List.mem_cons.mp q).elim (N₀ _ y.1).2.1 fun q => y.2 (hAv _ q)
    have keep4 : ∀ {a : Addr} {o : Obj}, PD D' Av a o → h4.get? a = some o := fun y => (x4 _ _ (N' _ y.1).1).1 (off N' y)
    have hb4 : Ext hb h4 := fun b o q => (x4 b o (F'.keep b o q)).1 fun m => by
      rcases List.mem_cons.mp m with rfl | m
      · exact absurd (Heap.lt_size q) (Nat.not_lt.mpr F'.above)
      · rw [hSn b m] at q; cases q
    refine wpAny_A0 (n := 5) (Fits.go fit (by omega)) (exit_raw1 (s := ⟨h4, s.gens, s.drawn, tk1, s.os⟩) (B.kx.keeps hb4) x dx tp e hs t0 ep nn tb (keep4 qx) (keep4 qdx) (keep4 qtp) _ _ fun h5 tk5 x5 => ?_)
    refine ⟨rfl, Tr.flight (T4.ext x5) fun h6 T6 => ?_⟩
    have x6 : ExtS (L :: frs outer) h h6 := tr_x T6 rfl (fun q => nomatch q) F' (W'.frames hSn F' N' FF)
    have F6 : Fr hb L h6 (tgm kv d) := Fr.extS F' x6 fun a ha => by
      rcases List.mem_cons.mp ha with rfl | ha
      · cases q : hb.get? a with
        | none => rfl
        | some o => exact absurd (Heap.lt_size q) (Nat.not_lt.mpr F'.above)
      · exact hSn a ha
    have N6 : News hb L h6 (allX hb h6 [L]) := News_all (.head _)
    dsimp only
    k_steps
    refine hQ _ _ _ ((W'.done hSn F' N').drop x6 W'.off) ?_
    exact ⟨rk.mono fun a o y => ⟨(x6 a o (N' _ y.1).1).1 (off N' y), (N' _ y.1).2.2, y.2⟩, tg_same hor⟩
  | @step n' k t'' u hk ch =>
    dsimp only
    k_fold
    have hkv : ∃ a, kv = .ref a := by cases rk; exact ⟨_, rfl⟩
    obtain ⟨ka, rfl⟩ := hkv
    k_steps
    refine RO.useF (in_op B (.bound hk)) [] F' N' (fun _ _ h => nomatch h) W' (Fits.go fit (by omega)) FF ⟨rk, S'⟩ mono_RS mono_c ?_
    intro v7 h7 t7 D7 F7 N7 o7 s7 W7 p7
    subst p7
    dsimp only [Option.isSome]
    k_steps
    refine RO.useF (sub_op B hk (by with_unfolding_all rfl) (by intro _; with_unfolding_all rfl)) [] F7 N7 (fun _ _ h => nomatch h) W7 (Fits.go fit (by omega)) FF ⟨rk.mono fun _ _ => PD.sub s7, S'.mono fun _ _ => PD.sub s7⟩ mono_RS mono_R ?_
    intro v6 h6 t6 D6 F6 N6 o6 s6 W6 p6
    k_steps
    refine ⟨_, _, v6, _, D6, rfl, tgm_set (by assumption), by assumption, W6, p6, S'.mono fun _ _ y => PD.sub s6 (PD.sub s7 y), PD.sub s6 (PD.sub s7 qx), PD.sub s6 (PD.sub s7 qdx), PD.sub s6 (PD.sub s7 qtp), ch, ?_⟩
    rcases hor with ⟨e, _⟩ | hk2
    · exact .inr ⟨k, t'', e.symm, hk⟩
    · exact .inr hk2
end Mine
end
theorem Mine.flush31 : True ∧ True := by
  w_top off
  try (fail_if_success walk1)
  exact ⟨trivial, trivial⟩
section
open PySem PySem.W PyProof.Rows PySem.Spec PySem.Calls PySem.W.X
set_option maxRecDepth 100000
set_option maxHeartbeats 2000000
set_option linter.unusedVariables false
namespace Mine
local macro_rules | `(tactic| x_close) => `(tactic| (first | exact ex_done (by assumption) (by assumption)))
theorem isvar_var {w : World} {s : Shared} : (hd.heap_39 w.params).In s.heap → ∀ (a : Addr) (dx : Addr) (ho : s.heap.get? a = some { cls := .ref 185, dict := some dx, data := .plain }) (Q E : Value → Shared → Prop)
  (hQ : ∀ h' tk, Ext s.heap h' → Q (.bool true) { s with heap := h', toks := tk }), wpAny (model PySem.Challenge.rw_fe0177_01.prog w) A0 (call (.ref 197) [.ref a]) Q E s := by
  k_fill
  intro KX a dx ho Q E hQ
  x_run
theorem isvar_tup {w : World} {s : Shared} : (hd.heap_39 w.params).In s.heap → ∀ (a : Addr) (c : Array Value) (n : Nat) (ho : s.heap.get? a = some { cls := .type "tuple", data := .seq c n }) (Q E : Value → Shared → Prop)
  (hQ : ∀ h' tk, Ext s.heap h' → Q (.bool false) { s with heap := h', toks := tk }), wpAny (model PySem.Challenge.rw_fe0177_01.prog w) A0 (call (.ref 197) [.ref a]) Q E s := by
  k_fill
  intro KX a c n ho Q E hQ
  x_run
theorem isvar_lst {w : World} {s : Shared} : (hd.heap_39 w.params).In s.heap → ∀ (a : Addr) (c : Array Value) (n : Nat) (ho : s.heap.get? a = some { cls := .type "list", data := .seq c n }) (Q E : Value → Shared → Prop)
  (hQ : ∀ h' tk, Ext s.heap h' → Q (.bool false) { s with heap := h', toks := tk }), wpAny (model PySem.Challenge.rw_fe0177_01.prog w) A0 (call (.ref 197) [.ref a]) Q E s := by
  k_fill
  intro KX a c n ho Q E hQ
  x_run
theorem isvar_dct {w : World} {s : Shared} : (hd.heap_39 w.params).In s.heap → ∀ (a : Addr) (c : Array DictEntry) (n : Nat) (ho : s.heap.get? a = some { cls := .type "dict", data := .dict c n }) (Q E : Value → Shared → Prop)
  (hQ : ∀ h' tk, Ext s.heap h' → Q (.bool false) { s with heap := h', toks := tk }), wpAny (model PySem.Challenge.rw_fe0177_01.prog w) A0 (call (.ref 197) [.ref a]) Q E s := by
  k_fill
  intro KX a c n ho Q E hQ
  x_run
theorem isvar_int {w : World} {s : Shared} : (hd.heap_39 w.params).In s.heap → ∀ (i : Int) (t : Tok) (Q E : Value → Shared → Prop)
  (hQ : ∀ h' tk, Ext s.heap h' → Q (.bool false) { s with heap := h', toks := tk }), wpAny (model PySem.Challenge.rw_fe0177_01.prog w) A0 (call (.ref 197) [.int i t]) Q E s := by
  k_fill
  intro KX i t Q E hQ
  x_run
def isV : Tm → Bool
  | .var _ => true
  | _ => false
theorem isvar_R {w : World} {hb : Heap} (B : Base w hb) {v : Value} {t : Tm} : RC w hb (.ref 197) [v] 3 (fun P => R P v t) (fun r _ => r = .bool (isV t)) := by
  intro A s Av f X hav hp Q E hQ
  refine wpAny_A0 f ?_
  cases hp with
  | int i tk => exact isvar_int (B.kx.keeps X) i tk _ _ fun h' tk xt => hQ _ _ _ xt rfl
  | var a _ => exact isvar_var (B.kx.keeps X) _ _ a.1 _ _ fun h' tk xt => hQ _ _ _ xt rfl
  | tup2 a _ _ => exact isvar_tup (B.kx.keeps X) _ _ _ a.1 _ _ fun h' tk xt => hQ _ _ _ xt rfl
  | tup3 a _ _ => exact isvar_tup (B.kx.keeps X) _ _ _ a.1 _ _ fun h' tk xt => hQ _ _ _ xt rfl
  | lst a _ _ => exact isvar_lst (B.kx.keeps X) _ _ _ a.1 _ _ fun h' tk xt => hQ _ _ _ xt rfl
  | dct a _ _ => exact isvar_dct (B.kx.keeps X) _ _ _ a.1 _ _ fun h' tk xt => hQ _ _ _ xt rfl
/-- an instance of Generator -/
inductive GenI (P : Addr → Obj → Prop) : Value → Value → Prop where
  | mk {x dx : Addr} {hs : Int} {t : Tok} {ep : Nat} {r : Value} : P x (instObj 38 dx) → P dx { cls := .type "dict", data := .dict #[⟨hs, .str ⟨#[114, 111, 119, 115]⟩ t, r⟩] ep } → GenI P (.ref x) r
local macro_rules | `(tactic| x_close) => `(tactic| (refine x_done (by assumption) (by assumption) ?_; refine' GenI.mk (at_of (by assumption) (by assumption) (by assumption) ?m1) (at_of (by assumption) (by assumption) (by assumption) ?m2); (case m1 => k_mem); (case m2 => k_mem)))
theorem gen_raw {w : World} {s : Shared} {hb : Heap} {Av : Addr → Prop} : (hd.heap_39 w.params).In s.heap → ∀ (x : Ext hb s.heap) (hav : ∀ a, Av a → ∃ o, s.heap.get? a = some o) (ga : Addr) (Q E : Value → Shared → Prop)
  (hQ : ∀ v h' tk, Ext s.heap h' → GenI (At hb h' Av) v (.ref ga) → Q v { s with heap := h', toks := tk }),
   wpAny (model PySem.Challenge.rw_fe0177_01.prog w) A0 (call (.ref 38) [.ref ga]) Q E s := by
  k_fill
  intro KX x hav ga Q E hQ
  x_run
theorem gen_new {w : World} {hb : Heap} (B : Base w hb) (ga : Addr) : RC w hb (.ref 38) [.ref ga] 3 (fun _ => True) (fun v P => GenI P v (.ref ga)) :=
  fun _ _ _ f x hav _ _ _ hQ => wpAny_A0 f (gen_raw (B.kx.keeps x) x hav ga _ _ hQ)
end Mine
end
theorem Mine.flush32 : True ∧ True := by
  w_top off
  try (fail_if_success walk1)
  exact ⟨trivial, trivial⟩
section
open PySem PySem.W PyProof.Rows PySem.Spec PySem.Calls PySem.W.X
set_option maxRecDepth 100000
set_option maxHeartbeats 2000000
namespace Mine
abbrev genObj (g : Nat) (nm qn : Value) : Obj := { cls := .type "generator", data := .fields #[.int g 0, nm, qn] }
section
variable {w : World} {hb : Heap} {A : Around} {s : Shared} {R : Result → Shared → Prop} {name qual : Str} {params : Arguments} {body : List Stmt} {scope : Scope} {dV kV doc pm cdv ct oc : Value} {an od : Option Addr} {osl : Array (Option Value)} {f : Addr} {args : Args} {binds : List (Str × Value)}
/-- the call of a generator def -/
theorem call_gen (B : Base w hb) (X : Ext hb s.heap)
    (ho : (hd.heap_39 w.params).lookup f = some ⟨oc, od, .func (fnOf name qual params body scope dV kV doc pm an cdv ct), osl⟩) (hcd : codeIn (hd.heap_39 w.params) cdv qual = true) (hroom : A.depth < recursionLimit)
    (hbind : BindsTo s (fnOf name qual params body scope dV kV doc pm an cdv ct) args binds) (hloc : ∀ y ∈ binds, scope.names.lookup y.1 = some .local)
    (hco : scope.isCoroutine = false) (hgen : scope.isGenerator = true) (hk : scope.kind = .function) (hcell : ∀ x ∈ scope.names, x.2 ≠ .cell)
    (h : ∀ L ga h' tk nm qn, Ext s.heap h' → h'.Ns L (fun y => binds.reverse.lookup y) → s.heap.get? L = none → s.heap.objs.size ≤ L → L < ga → h'.get? ga = some (genObj s.gens.size nm qn) → s.heap.get? ga = none →
      R (.ok (.ret (.ref ga))) { s with heap := h', toks := tk, gens := s.gens.push (.fresh (.func body (envOf qual scope L f cdv))) }) :
    codeAny (model PySem.Challenge.rw_fe0177_01.prog w) A (.call (.ref f) args) R s := by
  obtain ⟨mean, mg, mb, T⟩ := B.top
  have X₀ := B.kx.keeps X
  have nl : ∀ a, s.heap.objs.size ≤ a → s.heap.get? a = none := fun a ha => by
    cases q : s.heap.get? a with
    | none => rfl
    | some o => exact absurd (Heap.lt_size q) (Nat.not_lt.mpr ha)
  refine codeAny_call_generator (fd := fnOf name qual params body scope dV kV doc pm an cdv ct) hroom (X₀ _ _ ho) rfl hco hgen rfl (codeRec_of X₀ hcd) (hbind _ _ _ _ ?_)
  refine wpAny_newFunctionEnv hcell hloc (fun h₀ hns₀ hsb₀ => ⟨(T.nolimit.keeps X).fresh _ hsb₀, ?_⟩) hk
  have e0 : Ext s.heap h₀ := fun b o e => hsb₀.extBut b o (Nat.ne_of_lt (Heap.lt_size e)) (Heap.get?_push_of_some _ e)
  have hsz : h₀.objs.size = s.heap.objs.size + 1 := by rw [hsb₀.1, Heap.size_push]
  refine h s.heap.objs.size h₀.objs.size _ _ _ _ (fun b o e => Heap.get?_push_of_some _ (e0 b o e)) (hns₀.push _) (nl _ (Nat.le_refl _)) (Nat.le_refl _) (by rw [hsz]; exact Nat.lt_succ_self _) (Heap.get?_push_size _ rfl) (nl _ (by rw [hsz]; exact Nat.le_succ _))
end
end Mine
end
theorem Mine.flush33 : True ∧ True := by
  w_top off
  try (fail_if_success walk1)
  exact ⟨trivial, trivial⟩
section
open PySem PySem.W PyProof.Rows PySem.Spec PySem.Calls PySem.W.X
set_option maxRecDepth 100000
set_option maxHeartbeats 2000000
namespace Mine
section
variable {M : Model} {A : Around} {R : GenEnd} {Y : Protocol} {n : Nat} {s₀ : Shared} {c : Code} {fs : List Frame} {s : Shared} {env : Env}
  {K : Flow → Sem Fin} {H : Value → Sem Fin} {gd : Bool → Bool} {lv : List Value → List Value}
/-- a statement without a yield -/
theorem sg_stmt {st : Stmt} (h : wpAny M (A.over c fs) (exec st env) (fun f s' => Seg M A R Y n s₀ c (K f) fs s') (fun x s' => Seg M A R Y n s₀ c (H x) fs s') s) :
    Seg M A R Y n s₀ c ((exec st env).wrap K H gd lv) fs s := seg_wrap h
theorem sg_bind {α : Type} {m : Sem α} {f : α → Sem Flow} (h : wpAny M (A.over c fs) m (fun a s' => Seg M A R Y n s₀ c ((f a).wrap K H gd lv) fs s') (fun x s' => Seg M A R Y n s₀ c (H x) fs s') s) :
    Seg M A R Y n s₀ c ((m >>= f).wrap K H gd lv) fs s := by
  rw [Sem.bind_eq_wrap', Sem.wrap_wrap]
  exact seg_wrap h
theorem sg_If {test : Expr} {body orelse : List Stmt} {pos : Pos}
    (h : wpAny M (A.over c fs) (isTrue test env (eval test env)) (fun b s' => if b = true then Seg M A R Y n s₀ c ((execs body env).wrap K H gd lv) fs s' else Seg M A R Y n s₀ c ((execs orelse env).wrap K H gd lv) fs s') (fun x s' => Seg M A R Y n s₀ c (H x) fs s') s) :
    Seg M A R Y n s₀ c ((exec (.If test body orelse pos) env).wrap K H gd lv) fs s := by
  show Seg M A R Y n s₀ c (.at pos fun _ => ((isTrue test env (eval test env) >>= fun b => if b = true then execs body env else execs orelse env)).wrap K H gd lv) fs s
  refine seg_at (sg_bind (wpAny_mono h (fun b s' hb => ?_) fun _ _ x => x))
  cases b with
  | true => simpa using hb
  | false => simpa using hb
/-- a yield whose value is dropped: what is sent may be any value -/
theorem sg_Expr_Yield {e : Expr} {ypos pos : Pos} (hfs : splitAtGen fs = none) (hgd : gd false = false) (hfg : fs.any Frame.guarded = false)
    (h : wpAny M (A.over c fs) (eval e env) (fun v s' => Y n s₀ v s' fun r s'' => match r with
        | .send x => wpAny M (A.over c fs) (dropValue (.Yield (some e) ypos) pos x) (fun f s₃ => Seg M A R Y n s'' c (K f) fs s₃) (fun y s₃ => Seg M A R Y n s'' c (H y) fs s₃) s''
        | .throw _ => False)
      (fun x s' => Seg M A R Y (n + 1) s₀ c (H x) fs s') s)
    (mono : ∀ (v : Value) (s' : Shared) (k k' : Resume → Shared → Prop), (∀ r s'', k r s'' → k' r s'') → Y n s₀ v s' k → Y n s₀ v s' k')
    (hco : env.scope.isCoroutine = false := by rfl) (hi : interactive env = false := by rfl) :
    Seg M A R Y (n + 1) s₀ c ((exec (.Expr (.Yield (some e) ypos) pos) env).wrap K H gd lv) fs s := by
  rw [exec_Expr env _ pos hi rfl]
  show Seg M A R Y (n + 1) s₀ c (.at pos fun _ => ((eval e env >>= fun v => (standAt ypos >>= fun _ => yieldOut env v)) >>= fun x =>
    dropValue (.Yield (some e) ypos) pos x).wrap K H gd lv) fs s
  have hy : ∀ v, yieldOut env v = yieldValue v := fun v => by simp only [yieldOut, hco, Bool.false_eq_true, if_false]
  simp only [hy]
  refine seg_at ?_
  rw [Sem.bind_eq_wrap', Sem.bind_eq_wrap', Sem.wrap_wrap, Sem.wrap_wrap]
  refine seg_wrap (wpAny_mono h (fun v s' h' => ?_) fun _ _ x => x)
  refine seg_at (seg_yield hfs hgd hfg (mono _ _ _ _ (fun r s'' hr => ?_) h'))
  cases r with
  | send x =>
    show Seg M A R Y n s'' c ((dropValue (.Yield (some e) ypos) pos x).wrap K H gd lv) fs s''
    exact seg_wrap hr
  | throw x => exact hr.elim
/-- x = (yield e) -/
theorem sg_Assign_Yield {e : Expr} {x : Str} {px ypos pos : Pos} (hfs : splitAtGen fs = none) (hgd : gd false = false) (hfg : fs.any Frame.guarded = false)
    (h : wpAny M (A.over c fs) (eval e env) (fun v s' => Y n s₀ v s' fun r s'' => match r with
        | .send y => wpAny M (A.over c fs) (storeName env x y) (fun _ s₃ => Seg M A R Y n s'' c (K .next) fs s₃) (fun z s₃ => Seg M A R Y n s'' c (H z) fs s₃) s''
        | .throw _ => False)
      (fun z s' => Seg M A R Y (n + 1) s₀ c (H z) fs s') s)
    (mono : ∀ (v : Value) (s' : Shared) (k k' : Resume → Shared → Prop), (∀ r s'', k r s'' → k' r s'') → Y n s₀ v s' k → Y n s₀ v s' k')
    (hs : swapsWith (.Yield (some e) ypos) (some (.Name x px)) pos.line env = pure false)
    (hco : env.scope.isCoroutine = false := by rfl) :
    Seg M A R Y (n + 1) s₀ c ((exec (.Assign [.Name x px] (.Yield (some e) ypos) pos) env).wrap K H gd lv) fs s := by
  rw [exec_Assign_Name env x px _ pos hs]
  have hy : ∀ v, yieldOut env v = yieldValue v := fun v => by simp only [yieldOut, hco, Bool.false_eq_true, if_false]
  show Seg M A R Y (n + 1) s₀ c (.at pos fun _ => ((eval e env >>= fun v => (standAt ypos >>= fun _ => yieldOut env v)) >>= fun y =>
    (standAt px >>= fun _ => bindName env x y >>= fun _ => pure Flow.next)).wrap K H gd lv) fs s
  simp only [hy]
  refine seg_at ?_
  rw [Sem.bind_eq_wrap', Sem.bind_eq_wrap', Sem.wrap_wrap, Sem.wrap_wrap]
  refine seg_wrap (wpAny_mono h (fun v s' h' => ?_) fun _ _ x => x)
  refine seg_at (seg_yield hfs hgd hfg (mono _ _ _ _ (fun r s'' hr => ?_) h'))
  cases r with
  | send y =>
    show Seg M A R Y n s'' c ((standAt px >>= fun _ => bindName env x y >>= fun _ => pure Flow.next).wrap K H gd lv) fs s''
    refine sg_bind (wpAny_standAt (sg_bind (wpAny_bindName (wpAny_mono hr (fun _ s₃ h₃ => ?_) fun _ _ z => z))))
    exact h₃
  | throw x => exact hr.elim
end
section
variable {prog : Program} {w : World} {A : Around} {R : GenEnd} {Y : Protocol} {n : Nat} {s₀ : Shared} {fs : List Frame} {s : Shared} {env : Env} {c : Code}
  {K : Flow → Sem Fin} {H : Value → Sem Fin} {gd : Bool → Bool} {lv : List Value → List Value}
/-- a for of a generator: its frame -/
def forFrame (K : Flow → Sem Fin) (H : Value → Sem Fin) (gd : Bool → Bool) (lv : List Value → List Value) (env : Env) (c : Code) (p : Pos) : Frame :=
  .ret (fun r => ((match r with | .ok f => (.pure f : Sem Flow) | .error e => .raise e).onRaise fun (x : Value) => do
        if (← field x 1) == Value.none then unsupported "frame.own-activation:exception-without-traceback"
        setFlight x env.frame).wrap K H gd lv) none (gd false) (lv []) c p []
theorem sg_For {target iter : Expr} {body orelse : List Stmt} {pos : Pos}
    (h : wpAny (model prog w) (A.over c fs) (eval iter env) (fun x s₁ => wpAny (model prog w) (A.over c fs) (pyIter x) (fun it s₂ =>
      ∀ p, Seg (model prog w) A R Y n s₀ (.forLoop target it body orelse env) ((model prog w).den (.forLoop target it body orelse env)) (forFrame K H gd lv env c p :: fs) s₂)
      (fun x s' => Seg (model prog w) A R Y n s₀ c (H x) fs s') s₁) (fun x s' => Seg (model prog w) A R Y n s₀ c (H x) fs s') s)
    (hs : ∀ x, foldedSetIterable iter env x = pure x := by intro _; rfl) :
    Seg (model prog w) A R Y n s₀ c ((exec (.For target iter body orelse pos) env).wrap K H gd lv) fs s := by
  rw [exec_For]
  refine sg_bind (wpAny_standAt (sg_bind (wpAny_mono h (fun x s₁ h₁ => sg_bind (wpAny_of_eq (hs x) (sg_bind (wpAny_standAt (sg_bind (wpAny_holding (wpAny_mono h₁ (fun it s₂ h₂ => ?_) fun _ _ e => e))))))) fun _ _ e => e)))
  exact seg_call h₂
/-- a turn of it -/
theorem sg_forTurn {target : Expr} {it : Value} {body : List Stmt}
    (h : wpAny (model prog w) (A.over (.forLoop target it body [] env) fs) (pyNext it) (fun r s₁ => match r with
      | none => Seg (model prog w) A R Y n s₀ (.block [] env) (.pure (.done .next)) fs s₁
      | some v => wpAny (model prog w) (A.over (.forLoop target it body [] env) fs) (assign target env v) (fun _ s₂ =>
          Seg (model prog w) A R Y n s₀ (.forLoop target it body [] env) ((execs body env).wrap (fun f => match f with
            | .next | .cont => .pure (.again (.forLoop target it body [] env))
            | .brk => .pure (.done .next)
            | .ret v => .pure (.done (.ret v))) (fun e => (do noteFrame e env; theTreesLotGoes e : Sem Unit).wrap (fun _ => .raise e) .raise id id) id id) fs s₂)
          (fun x s' => Seg (model prog w) A R Y n s₀ (.forLoop target it body [] env) ((do noteFrame x env; theTreesLotGoes x : Sem Unit).wrap (fun _ => .raise x) .raise id id) fs s') s₁)
      (fun _ _ => False) s)
    (ht : ∀ v, letOwnedTupleGo target it v = pure () := by intro _; rfl) :
    Seg (model prog w) A R Y n s₀ (.forLoop target it body [] env) ((model prog w).den (.forLoop target it body [] env)) fs s := by
  show Seg _ A R Y n s₀ _ ((forTurn target it body [] env).onRaise (fun x => do noteFrame x env; theTreesLotGoes x)) fs s
  unfold forTurn
  rw [Sem.onRaise_eq_wrap]
  have hh : (fun e => (do noteFrame e env; theTreesLotGoes e : Sem Unit).bind fun _ => (.raise e : Sem Fin)) = fun e => (do noteFrame e env; theTreesLotGoes e : Sem Unit).wrap (fun _ => .raise e) .raise id id := by
    funext e
    exact Sem.bind_eq_wrap _ _
  rw [hh]
  rw [Sem.bind_eq_wrap', Sem.wrap_wrap]
  refine seg_wrap (wpAny_standAt ?_)
  rw [Sem.bind_eq_wrap', Sem.wrap_wrap]
  refine seg_wrap (wpAny_onRaise (wpAny_mono h (fun r s₁ h₁ => ?_) fun _ _ e => e.elim))
  cases r with
  | none =>
    show Seg _ A R Y n s₀ _ (.pure (.again (.block [] env))) fs s₁
    exact seg_again rfl h₁
  | some v =>
    dsimp only
    rw [ht v]
    show Seg _ A R Y n s₀ _ (Sem.wrap _ _ _ _ (assign target env v >>= fun _ => _)) fs s₁
    rw [Sem.bind_eq_wrap', Sem.wrap_wrap]
    refine seg_wrap (wpAny_mono h₁ (fun _ s₂ h₂ => ?_) fun _ _ e => e)
    rw [Sem.bind_eq_wrap', Sem.wrap_wrap]
    refine Eq.mpr (congrArg (fun t => Seg (model prog w) A R Y n s₀ (.forLoop target it body [] env) t fs s₂) (Sem.wrap_congr (execs body env) _ _ (K' := fun f => match f with
            | .next | .cont => .pure (.again (.forLoop target it body [] env))
            | .brk => .pure (.done .next)
            | .ret v => .pure (.done (.ret v))) (H' := (fun e => (do noteFrame e env; theTreesLotGoes e : Sem Unit).wrap (fun _ => .raise e) .raise id id))
        (fun f => by cases f <;> rfl) (fun e => rfl))) ?_
    exact h₂
theorem sg_forEnd {p : Pos} (h : Seg (model prog w) A R Y n s₀ c (K .next) fs s) : Seg (model prog w) A R Y n s₀ (.block [] env) (.pure (.done .next)) (forFrame K H gd lv env c p :: fs) s :=
  seg_leaf (.ok .next) h
end
end Mine
end
theorem Mine.flush34 : True ∧ True := by
  w_top off
  try (fail_if_success walk1)
  exact ⟨trivial, trivial⟩
section
open PySem PySem.W PyProof.Rows PySem.Spec PySem.Calls PySem.W.X
set_option maxRecDepth 100000
set_option maxHeartbeats 2000000
namespace Mine
/-- the place where generators are driven: its room, its frames, what the driver turns -/
structure GCtx where
  w : World
  hb : Heap
  A : Around
  outer : List Env
  T : Addr → Prop
structure GCtx.Wf (C : GCtx) : Prop where
  fits : Fits C.A 80
  frames : C.A.frames = some C.outer
/-- kept, but for what the driver turns and X; frames up to slots -/
def Kp (C : GCtx) (X : List Addr) (h h' : Heap) : Prop := ∀ b o, h.get? b = some o → ¬ C.T b → b ∉ X → (b ∉ frs C.outer → h'.get? b = some o) ∧ (b ∈ frs C.outer → ∃ sl, h'.get? b = some { o with slots := sl })
theorem Kp.refl (C : GCtx) (X : List Addr) (h : Heap) : Kp C X h h := fun b o e _ _ => ⟨fun _ => e, fun _ => ⟨o.slots, e⟩⟩
theorem Kp.of {C : GCtx} {X : List Addr} {h h' : Heap} (x : ExtS (frs C.outer) h h') : Kp C X h h' := fun b o e _ _ => x b o e
theorem Kp.mono {C : GCtx} {X X' : List Addr} {h h' : Heap} (x : Kp C X h h') (s : ∀ a ∈ X, a ∈ X') : Kp C X' h h' := fun b o e n m => x b o e n fun q => m (s _ q)
theorem Kp.trans {C : GCtx} {X : List Addr} {a b c : Heap} (x : Kp C X a b) (y : Kp C X b c) : Kp C X a c := fun z o e n m => by
  by_cases hz : z ∈ frs C.outer
  · obtain ⟨sl, e1⟩ := (x z o e n m).2 hz
    obtain ⟨sl2, e2⟩ := (y z _ e1 n m).2 hz
    exact ⟨fun q => absurd hz q, fun _ => ⟨sl2, e2⟩⟩
  · exact ⟨fun _ => (y z o ((x z o e n m).1 hz) n m).1 hz, fun q => absurd q hz⟩
theorem Kp.some {C : GCtx} {X : List Addr} {h h' : Heap} (x : Kp C X h h') {b : Addr} {o : Obj} (e : h.get? b = some o) (n : ¬ C.T b) (m : b ∉ X) : ∃ sl, h'.get? b = some { o with slots := sl } := by
  by_cases hb : b ∈ frs C.outer
  · exact (x b o e n m).2 hb
  · exact ⟨o.slots, (x b o e n m).1 hb⟩
/-- an address that the earlier heap does not have is dropped from X -/
theorem Kp.drop {C : GCtx} {X Y : List Addr} {a b c : Heap} (x : Kp C X a b) (y : Kp C Y b c) (hY : ∀ z ∈ Y, z ∈ X ∨ a.get? z = none) : Kp C X a c := fun z o e n m => by
  have mY : z ∉ Y := fun q => (hY z q).elim m fun q => by rw [e] at q; cases q
  by_cases hz : z ∈ frs C.outer
  · obtain ⟨sl, e1⟩ := (x z o e n m).2 hz
    obtain ⟨sl2, e2⟩ := (y z _ e1 n mY).2 hz
    exact ⟨fun q => absurd hz q, fun _ => ⟨sl2, e2⟩⟩
  · exact ⟨fun _ => (y z o ((x z o e n m).1 hz) n mY).1 hz, fun q => absurd q hz⟩
theorem At.kp {C : GCtx} {X : List Addr} {h h' : Heap} {Av : Addr → Prop} (x : Kp C X h h') (hT : ∀ a, C.T a → Av a) (hF : ∀ a ∈ frs C.outer, Av a) {a : Addr} {o : Obj} (hX : a ∉ X) (y : At C.hb h Av a o) : At C.hb h' Av a o :=
  ⟨(x a o y.1 (fun q => y.2.2 (hT a q)) hX).1 fun q => y.2.2 (hF a q), y.2⟩
/-- what the driver sees to, wherever it wakes a generator -/
structure OKs (C : GCtx) (h : Heap) : Prop where
  te : ∀ a, C.T a → ∃ o, h.get? a = some o
  ff : h.FunFrames C.hb C.outer
  ext : Ext C.hb h
inductive Ev where
  | child (u : Tm)
  | plain
  | result (u : Tm)
/-- the spec of a fresh generator: of what data, its value, its state, its number, its frame -/
abbrev ChildSpec := (Addr → Prop) → Tm → Value → GenState → Nat → Addr → Heap → Prop
def Same (s₀ s : Shared) : Prop := s.drawn = s₀.drawn ∧ s.os = s₀.os
/-- kept off what may turn -/
def KpA (Av : Addr → Prop) (h h' : Heap) : Prop := ∀ b o, h.get? b = some o → ¬ Av b → h'.get? b = some o
def Have (Av : Addr → Prop) (h : Heap) : Prop := ∀ a, Av a → ∃ o, h.get? a = some o
theorem KpA.trans {Av : Addr → Prop} {a b c : Heap} (x : KpA Av a b) (y : KpA Av b c) : KpA Av a c := fun z o e n => y z o (x z o e n) n
theorem At.kpA {hb h h' : Heap} {Av : Addr → Prop} (x : KpA Av h h') {a : Addr} {o : Obj} (y : At hb h Av a o) : At hb h' Av a o := ⟨x a o y.1 y.2.2, y.2⟩
/-- what the driver turns is kept within a segment -/
def KpT (C : GCtx) (h h' : Heap) : Prop := ∀ b o, C.T b → h.get? b = some o → (b ∉ frs C.outer → h'.get? b = some o) ∧ (b ∈ frs C.outer → ∃ sl, h'.get? b = some { o with slots := sl })
theorem KpT.refl (C : GCtx) (h : Heap) : KpT C h h := fun b o _ e => ⟨fun _ => e, fun _ => ⟨o.slots, e⟩⟩
def YS (C : GCtx) (child : ChildSpec) (evs : List Ev) (hI : Heap) (Av : Addr → Prop) (Lg : Addr) : Protocol := fun i s₀ v s kap =>
  Kp C [Lg] hI s.heap ∧ Same s₀ s ∧ OKs C s.heap ∧ KpT C s₀.heap s.heap ∧ match evs[i]? with
    | some (.child u) => ∃ Av' gs Lc, (∀ a, Av a → Av' a) ∧ Have Av' s.heap ∧ hI.get? Lc = none ∧ s.gens = s₀.gens.push gs ∧ gs.bare = true ∧ child Av' u v gs s₀.gens.size Lc s.heap ∧ ∀ r s'', Kp C [Lc] s.heap s''.heap → OKs C s''.heap → R (At C.hb s''.heap Av') r u → kap (.send r) s''
    | some .plain => v = .ref 198 ∧ s.gens = s₀.gens ∧ ∀ s'', Kp C [] s.heap s''.heap → OKs C s''.heap → kap (.send v) s''
    | some (.result u) => s.gens = s₀.gens ∧ R (At C.hb s.heap Av) v u ∧ ∀ s'', Kp C [] s.heap s''.heap → OKs C s''.heap → kap (.send v) s''
    | none => False
def RS (C : GCtx) (hI : Heap) (Lg : Addr) : GenEnd := fun i s₀ r s => r = .ok (.ret .none) ∧ i = 0 ∧ s.gens = s₀.gens ∧ Same s₀ s ∧ Kp C [Lg] hI s.heap ∧ OKs C s.heap ∧ s.heap = s₀.heap
def LastIs (u : Tm) : List Ev → Prop
  | .child v :: _ => v = u
  | .result v :: _ => v = u
  | _ => False
def GSof (C : GCtx) (child : ChildSpec) : ChildSpec := fun Av u v gs g Lg h => ∃ ga nm qn evs, GenI (At C.hb h fun a => Av a ∨ a = Lg) v (.ref ga) ∧ At C.hb h (fun a => Av a ∨ a = Lg) ga (genObj g nm qn) ∧ LastIs u evs ∧
  ∀ s'', KpA Av h s''.heap → Have Av s''.heap → OKs C s''.heap → gs.Goes (MG C.w) C.A (RS C s''.heap Lg) (YS C child evs s''.heap Av Lg) evs.length (.send .none) s''
noncomputable def GS (C : GCtx) : Nat → ChildSpec
  | 0 => GSof C fun _ _ _ _ _ _ _ => False
  | n + 1 => GSof C (GS C n)
theorem GenI.mono {P P' : Addr → Obj → Prop} (h : ∀ a o, P a o → P' a o) {v r : Value} (g : GenI P v r) : GenI P' v r := by
  cases g with
  | mk a b => exact .mk (h _ _ a) (h _ _ b)
theorem GSof.kpA {C : GCtx} {child : ChildSpec} {Av : Addr → Prop} {u : Tm} {v : Value} {gs : GenState} {g : Nat} {Lg : Addr} {h h' : Heap} (x : GSof C child Av u v gs g Lg h) (k : KpA Av h h') : GSof C child Av u v gs g Lg h' := by
  obtain ⟨ga, nm, qn, evs, a, b, c, d⟩ := x
  have k' : KpA (fun a => Av a ∨ a = Lg) h h' := fun b o e n => k b o e fun z => n (.inl z)
  exact ⟨ga, nm, qn, evs, a.mono fun _ _ y => At.kpA k' y, At.kpA k' b, c, fun s'' y z => d s'' (k.trans y) z⟩
theorem GS.kpA {C : GCtx} {n : Nat} {Av : Addr → Prop} {u : Tm} {v : Value} {gs : GenState} {g : Nat} {Lg : Addr} {h h' : Heap} (x : GS C n Av u v gs g Lg h) (k : KpA Av h h') : GS C n Av u v gs g Lg h' := by
  cases n with
  | zero => exact GSof.kpA x k
  | succ n => exact GSof.kpA x k
theorem YS.mono {C : GCtx} {child : ChildSpec} {evs : List Ev} {hI : Heap} {Av : Addr → Prop} {Lg : Addr} (i : Nat) (s₀ : Shared) (v : Value) (s : Shared) (k k' : Resume → Shared → Prop) (h : ∀ r s'', k r s'' → k' r s'') (y : YS C child evs hI Av Lg i s₀ v s k) : YS C child evs hI Av Lg i s₀ v s k' := by
  obtain ⟨a, b, c, e, d⟩ := y
  refine ⟨a, b, c, e, ?_⟩
  cases he : evs[i]? with
  | none => rw [he] at d; exact d
  | some e =>
    rw [he] at d
    cases e with
    | child u => obtain ⟨Av', gs, Lc, d1, d6, d7, d2, d3, d4, d5⟩ := d; exact ⟨Av', gs, Lc, d1, d6, d7, d2, d3, d4, fun r s'' x y z => h _ _ (d5 r s'' x y z)⟩
    | plain => exact ⟨d.1, d.2.1, fun s'' x y => h _ _ (d.2.2 s'' x y)⟩
    | result u => exact ⟨d.1, d.2.1, fun s'' x y => h _ _ (d.2.2 s'' x y)⟩
end Mine
end
theorem Mine.flush35 : True ∧ True := by
  w_top off
  try (fail_if_success walk1)
  exact ⟨trivial, trivial⟩
section
open PySem PySem.W PyProof.Rows PySem.Spec PySem.Calls PySem.W.X
set_option maxRecDepth 100000
set_option maxHeartbeats 2000000
namespace Mine
theorem over_func (A : Around) (body : List Stmt) (env : Env) : A.over (.func body env) [] = A.deeper env := by
  cases A with | mk h d f g u => cases f <;> cases g <;> rfl
theorem over_for (A : Around) (t : PySem.Expr) (it : Value) (b o body : List Stmt) (env : Env) (k : Result → Sem Fin) (l : List Value) (p : Pos) : A.over (.forLoop t it b o env) [.ret k none false l (.func body env) p []] = A.deeper env := by
  cases A with | mk h d f g u => cases f <;> cases g <;> rfl
/-- what may turn, seen from where a child is driven -/
structure AvOk (Av Av' : Addr → Prop) (T : Addr → Prop) (outer : List Env) (h' : Heap) : Prop where
  up : ∀ a, Av a → Av' a
  down : ∀ a o, Av' a → h'.get? a = some o → Av a
  t : ∀ a, T a → Av' a
  f : ∀ a ∈ frs outer, Av' a
def GF (w : World) (hb : Heap) (m : Nat) (Av : Addr → Prop) (u : Tm) (v : Value) (gs : GenState) (g : Nat) (Lc : Addr) (h : Heap) : Prop :=
  ∀ (A' : Around) (outer : List Env) (T : Addr → Prop) (Av' : Addr → Prop), GCtx.Wf ⟨w, hb, A', outer, T⟩ → AvOk Av Av' T outer h → GS ⟨w, hb, A', outer, T⟩ m Av' u v gs g Lc h
def isI : Tm → Bool
  | .int _ => true
  | _ => false
/-- contract of `_reify` -/
def ReifyC (w : World) (hb : Heap) (σ : Sb) (d : Addr) (ks : List Int) (m : Nat) (t u : Tm) : Prop :=
  ∀ (v : Value) (A : Around) (s : Shared) (Av : Addr → Prop), Fits A 8 → Ext hb s.heap → (∀ a, Av a → ∃ o, s.heap.get? a = some o) → R (At hb s.heap Av) v t → Sub (At hb s.heap Av) σ d ks → ∀ (Q E : Value → Shared → Prop),
    (∀ h' tk, isI t = true → R (At hb h' Av) v u → Ext s.heap h' → Q v { s with heap := h', toks := tk }) →
    (∀ v' ga gs Lc h' tk, isI t = false → Ext s.heap h' → s.heap.get? Lc = none → GenI (At hb h' Av) v' (.ref ga) → gs.bare = true → GF w hb m Av u v' gs s.gens.size Lc h' → Q v' { s with heap := h', toks := tk, gens := s.gens.push gs }) →
    wpAny (model PySem.Challenge.rw_fe0177_01.prog w) A (call (.ref 213) [v, .ref d]) Q E s
/-- in a segment of a generator with frame L, woken first at hI -/
structure SgW (C : GCtx) (hI hS : Heap) (Av : Addr → Prop) (L : Addr) (h₀ : Heap) (D : List (Addr × Obj)) : Prop where
  W : WkF C.hb h₀ Av (frs C.outer) L D
  FF : h₀.FunFrames C.hb C.outer
  kp : Kp C [L] hI h₀
  tt : ∀ b o, C.T b → hS.get? b = some o → h₀.get? b = some o
section
variable {C : GCtx} {hI hS h₀ h : Heap} {Av : Addr → Prop} {L : Addr} {D : List (Addr × Obj)} {m : Str → Option Value} {mu : List (Addr × Obj)}
theorem SgW.some (S : SgW C hI hS Av L h₀ D) (F : Fr C.hb L h m) (N : News C.hb L h (mu ++ D)) : ExtS (frs C.outer) h₀ h :=
  S.W.done (fun a ha => FunFrames.none S.FF ha) F fun p hp => N p (List.mem_append_right _ hp)
theorem SgW.leave (S : SgW C hI hS Av L h₀ D) (F : Fr C.hb L h m) (N : News C.hb L h (mu ++ D)) (hT : ∀ a, C.T a → Av a) : Kp C [L] hI h ∧ OKs C h := by
  have x := S.some F N
  refine ⟨S.kp.trans (Kp.of x), fun a ha => ?_, x.frames S.FF, F.keep⟩
  obtain ⟨o, e⟩ := S.W.av a (hT a ha)
  obtain ⟨sl, e'⟩ := x.some e
  exact ⟨_, e'⟩
theorem SgW.leaveT (S : SgW C hI hS Av L h₀ D) (F : Fr C.hb L h m) (N : News C.hb L h (mu ++ D)) : KpT C hS h := fun b o t e => S.some F N b o (S.tt b o t e)
theorem SgW.have (S : SgW C hI hS Av L h₀ D) (F : Fr C.hb L h m) (N : News C.hb L h (mu ++ D)) : Have (fun a => Av a ∨ a ∈ L :: mu.map (·.1)) h := fun a ha => by
  have x := S.some F N
  rcases ha with ha | ha
  · obtain ⟨o, e⟩ := S.W.av a ha
    obtain ⟨sl, e'⟩ := x.some e
    exact ⟨_, e'⟩
  · rcases List.mem_cons.mp ha with rfl | ha
    · obtain ⟨oL, _, _, hL, _⟩ := F.ns
      exact ⟨oL, hL⟩
    · obtain ⟨q, hq, rfl⟩ := List.mem_map.mp ha
      exact ⟨q.2, (N q (List.mem_append_left _ hq)).1⟩
theorem SgW.at (F : Fr C.hb L h m) (N : News C.hb L h (mu ++ D)) (off : ∀ p ∈ D, p.1 ∉ mu.map (·.1)) {a : Addr} {o : Obj} (y : PD D Av a o) : At C.hb h (fun a => Av a ∨ a ∈ L :: mu.map (·.1)) a o := by
  have q := N _ (List.mem_append_right _ y.1)
  refine ⟨q.1, q.2.2, fun z => z.elim y.2 fun z => ?_⟩
  rcases List.mem_cons.mp z with e | z
  · exact q.2.1 e
  · exact off _ y.1 z
theorem FunFrames.on {hb h h' : Heap} {l : List Env} (F : h.FunFrames hb l) (k : ∀ b ∈ frs l, ∀ o, h.get? b = .some o → h'.get? b = .some o) : h'.FunFrames hb l := by
  induction l with
  | nil => trivial
  | cons env rest ih =>
    obtain ⟨hk, ⟨L, o, hf, hn, ho, hd⟩, hr⟩ := F
    have e : frs (env :: rest) = L :: frs rest := by
      show List.filterMap _ _ = _
      rw [List.filterMap_cons, hf]
    refine ⟨hk, ⟨L, o, hf, hn, k L (by rw [e]; exact .head _) o ho, hd⟩, ih hr fun b hb => k b (by rw [e]; exact .tail _ hb)⟩
/-- at the start of a segment -/
theorem seg_start' (kp : Kp C [L] hI h) (ok : OKs C h) (ns : h.Ns L m) (base : C.hb.objs.size ≤ L) (nL : ¬ Av L) (hex : Have Av hI) (hT : ∀ a, C.T a → Av a) (hF : ∀ a ∈ frs C.outer, Av a)
    (hmu : ∀ p ∈ mu, h.get? p.1 = .some p.2 ∧ C.hb.get? p.1 = none ∧ ¬ Av p.1 ∧ p.1 ≠ L ∧ hI.get? p.1 = none) :
    ∃ D h₀, SgW C hI h Av L h₀ D ∧ Fr C.hb L h m ∧ News C.hb L h (mu ++ D) ∧ (∀ p ∈ D, p.1 ∉ mu.map (·.1)) ∧ (∀ a o, At C.hb h (fun a => Av a ∨ a ∈ L :: mu.map (·.1)) a o → PD D Av a o) ∧ (∀ b o, h.get? b = .some o → C.hb.get? b = none → b ∉ L :: mu.map (·.1) → (b, o) ∈ D) := by
  have avX : ∀ a, Av a → a ∉ L :: mu.map (·.1) := fun a ha z => by
    rcases List.mem_cons.mp z with e | z
    · exact nL (e ▸ ha)
    · obtain ⟨p, hp, rfl⟩ := List.mem_map.mp z
      exact (hmu p hp).2.2.1 ha
  have bL : C.hb.get? L = none := by
    cases q : C.hb.get? L with
    | none => rfl
    | some o => exact absurd (Heap.lt_size q) (Nat.not_lt.mpr base)
  have bX : ∀ a, a ∈ L :: mu.map (·.1) → C.hb.get? a = none := fun a z => by
    rcases List.mem_cons.mp z with rfl | z
    · exact bL
    · obtain ⟨p, hp, rfl⟩ := List.mem_map.mp z
      exact (hmu p hp).2.1
  have D0 : ∀ b o, h.get? b = .some o → b ∉ L :: mu.map (·.1) → (dropX h (L :: mu.map (·.1))).get? b = .some o := fun b o e n => dropX_some.mpr ⟨n, e⟩
  refine ⟨allX C.hb h (L :: mu.map (·.1)), dropX h (L :: mu.map (·.1)), ⟨⟨fun b o e => D0 b o (ok.ext b o e) fun z => ?_, fun a ha => ?_, ?_, hF, fun p hp => ?_⟩, FunFrames.on ok.ff fun b hm o e => D0 b o e (avX b (hF b hm)), fun b o e n mX => ?_, fun b o t e => D0 b o e (avX b (hT b t))⟩, ⟨ns, ok.ext, base⟩, News_app (fun p hp => ?_) (News_all (.head _)), fun p hp => ?_, fun a o y => ?_, fun b o e n m => allX_mem.mpr ⟨n, e, m⟩⟩
  · rw [bX b z] at e; cases e
  · by_cases t : C.T a
    · obtain ⟨o, e⟩ := ok.te a t
      exact ⟨o, D0 a o e (avX a ha)⟩
    · obtain ⟨o, e⟩ := hex a ha
      obtain ⟨sl, e'⟩ := Kp.some kp e t fun q => nL (List.mem_singleton.mp q ▸ ha)
      exact ⟨_, D0 a _ e' (avX a ha)⟩
  · rw [dropX_get, if_pos (.head _)]
  · have z := (allX_mem (a := p.1) (o := p.2)).mp hp
    have z2 := dropX_some.mp z.2.1
    have : p ∈ allX C.hb h (L :: mu.map (·.1)) := allX_mem.mpr ⟨z.1, z2.2, z2.1⟩
    exact ⟨fun _ => this, fun _ => ⟨p.2.slots, this⟩⟩
  · have nX : b ∉ L :: mu.map (·.1) := fun z => by
      rcases List.mem_cons.mp z with q | z
      · exact mX (q ▸ .head _)
      · obtain ⟨p, hp, rfl⟩ := List.mem_map.mp z
        rw [(hmu p hp).2.2.2.2] at e; cases e
    have k := kp b o e n mX
    exact ⟨fun q => D0 b o (k.1 q) nX, fun q => by obtain ⟨sl, e'⟩ := k.2 q; exact ⟨sl, D0 b _ e' nX⟩⟩
  · exact ⟨(hmu p hp).1, (hmu p hp).2.2.2.1, (hmu p hp).2.1⟩
  · exact fun q => (allX_mem.mp hp).2.2 (.tail _ q)
  · exact ⟨allX_mem.mpr ⟨y.2.1, y.1, fun q => y.2.2 (.inr q)⟩, fun q => y.2.2 (.inl q)⟩
theorem seg_start (kp : Kp C [L] hI h) (ok : OKs C h) (ns : h.Ns L m) (base : C.hb.objs.size ≤ L) (nL : ¬ Av L) (hex : Have Av hI) (hT : ∀ a, C.T a → Av a) (hF : ∀ a ∈ frs C.outer, Av a)
    (hmu : ∀ p ∈ mu, h.get? p.1 = .some p.2 ∧ C.hb.get? p.1 = none ∧ ¬ Av p.1 ∧ p.1 ≠ L ∧ hI.get? p.1 = none) :
    ∃ D h₀, SgW C hI h Av L h₀ D ∧ Fr C.hb L h m ∧ News C.hb L h (mu ++ D) ∧ (∀ p ∈ D, p.1 ∉ mu.map (·.1)) ∧ (∀ a o, At C.hb h (fun a => Av a ∨ a ∈ L :: mu.map (·.1)) a o → PD D Av a o) := by
  obtain ⟨D, h₀, a, b, c, d, e, _⟩ := seg_start' kp ok ns base nL hex hT hF hmu
  exact ⟨D, h₀, a, b, c, d, e⟩
end
end Mine
end
theorem Mine.flush36 : True ∧ True := by
  w_top off
  try (fail_if_success walk1)
  exact ⟨trivial, trivial⟩
section
open PySem PySem.W PyProof.Rows PySem.Spec PySem.Calls PySem.W.X
set_option maxRecDepth 100000
set_option maxHeartbeats 2000000
namespace Mine
section
variable {w : World} {hb h₀ : Heap} {A : Around} {s : Shared} {L : Addr} {m : Str → Option Value} {D : List (Addr × Obj)} {E : Value → Shared → Prop} {Av : Addr → Prop} {outer : List Env}
/-- the contract of `_reify` used in a walk -/
theorem ReifyC.useF {σ : Sb} {d : Addr} {ks : List Int} {n : Nat} {t u : Tm} (C : ReifyC w hb σ d ks n t u) {v : Value} {Q : Value → Shared → Prop} (mu : List (Addr × Obj)) (F : Fr hb L s.heap m) (N : News hb L s.heap (mu ++ D)) (off : ∀ p ∈ D, p.1 ∉ mu.map (·.1)) (W : WkF hb h₀ Av (frs outer) L D) (fit : Fits A 8) (FF : h₀.FunFrames hb outer)
    (hr : R (PD D Av) v t) (hs : Sub (PD D Av) σ d ks)
    (retI : ∀ h' tk D', isI t = true → R (PD D' Av) v u → Fr hb L h' m → News hb L h' (mu ++ D') → (∀ p ∈ D', p.1 ∉ mu.map (·.1)) → (∀ p ∈ D, p ∈ D') → WkF hb h₀ Av (frs outer) L D' → Q v { s with heap := h', toks := tk })
    (retG : ∀ v' ga gs Lc h' tk D', isI t = false → s.heap.get? Lc = none → GenI (PD D' Av) v' (.ref ga) → gs.bare = true → GF w hb n (fun a => Av a ∨ a ∈ L :: mu.map (·.1)) u v' gs s.gens.size Lc h' →
      Fr hb L h' m → News hb L h' (mu ++ D') → (∀ p ∈ D', p.1 ∉ mu.map (·.1)) → (∀ p ∈ D, p ∈ D') → WkF hb h₀ Av (frs outer) L D' → (∀ b o, h'.get? b = some o → hb.get? b = none → b ∉ L :: mu.map (·.1) → (b, o) ∈ D') → Q v' { s with heap := h', toks := tk, gens := s.gens.push gs }) :
    wpAny (model PySem.Challenge.rw_fe0177_01.prog w) A (call (.ref 213) [v, .ref d]) Q E s := by
  have ND : News hb L s.heap D := fun p hp => N p (List.mem_append_right _ hp)
  have D0 := W.done (fun a ha => FunFrames.none FF ha) F ND
  have key : ∀ h', Ext s.heap h' → Fr hb L h' m ∧ News hb L h' (mu ++ allX hb h' (L :: mu.map (·.1))) ∧ (∀ p ∈ allX hb h' (L :: mu.map (·.1)), p.1 ∉ mu.map (·.1)) ∧ (∀ p ∈ D, p ∈ allX hb h' (L :: mu.map (·.1))) ∧ WkF hb h₀ Av (frs outer) L (allX hb h' (L :: mu.map (·.1))) := fun h' x => by
    have sub : ∀ p ∈ D, p ∈ allX hb h' (L :: mu.map (·.1)) := fun p hp => allX_mem.mpr ⟨(ND p hp).2.2, x _ _ (ND p hp).1, fun q => (List.mem_cons.mp q).elim (ND p hp).2.1 (off p hp)⟩
    have N' : News hb L h' mu := fun p hp => ⟨x _ _ (N p (List.mem_append_left _ hp)).1, (N p (List.mem_append_left _ hp)).2⟩
    exact ⟨Fr_ext F x, News_app N' (News_all (.head _)), fun p hp q => (allX_mem.mp hp).2.2 (List.mem_cons_of_mem _ q), sub, W.mono sub⟩
  have pd : ∀ h' a o, At hb h' (fun a => Av a ∨ a ∈ L :: mu.map (·.1)) a o → PD (allX hb h' (L :: mu.map (·.1))) Av a o := fun h' a o y => ⟨allX_mem.mpr ⟨y.2.1, y.1, fun q => y.2.2 (.inr q)⟩, fun z => y.2.2 (.inl z)⟩
  have at' : ∀ a o, PD D Av a o → At hb s.heap (fun a => Av a ∨ a ∈ L :: mu.map (·.1)) a o := fun a o x => by
    refine ⟨(ND _ x.1).1, (ND _ x.1).2.2, fun z => z.elim x.2 fun z => ?_⟩
    rcases List.mem_cons.mp z with rfl | z
    · exact (ND _ x.1).2.1 rfl
    · exact off _ x.1 z
  refine C v A s (fun a => Av a ∨ a ∈ L :: mu.map (·.1)) fit F.keep (fun a ha => ?_) (hr.mono at') (hs.mono at') Q E (fun h' tk i r x => ?_) fun v' ga gs Lc h' tk i x hL g b gf => ?_
  · rcases ha with ha | ha
    · obtain ⟨o, e⟩ := W.av a ha
      obtain ⟨sl, e'⟩ := D0.some e
      exact ⟨_, e'⟩
    · rcases List.mem_cons.mp ha with rfl | ha
      · obtain ⟨oL, _, _, hL, _⟩ := F.ns
        exact ⟨oL, hL⟩
      · obtain ⟨q, hq, rfl⟩ := List.mem_map.mp ha
        exact ⟨q.2, (N q (List.mem_append_left _ hq)).1⟩
  · obtain ⟨k1, k2, k3, k4, k5⟩ := key h' x
    exact retI h' tk _ i (r.mono (pd h')) k1 k2 k3 k4 k5
  · obtain ⟨k1, k2, k3, k4, k5⟩ := key h' x
    exact retG v' ga gs Lc h' tk _ i hL (g.mono (pd h')) b gf k1 k2 k3 k4 k5 fun b o e n m => allX_mem.mpr ⟨n, e, m⟩
end
theorem mono_R0 {v : Value} {t : Tm} : ∀ P P' : Addr → Obj → Prop, (∀ a o, P a o → P' a o) → R P v t → R P' v t := fun _ _ h r => r.mono h
local macro_rules | `(tactic| k_mem) => `(tactic| first | exact List.Mem.head _ | assumption | exact Held.mem (by assumption) | (refine' List.Mem.tail _ ?_; k_mem))
local macro_rules | `(tactic| walk_at "call builtin:isinstance") => `(tactic| (refine wpAny_A0 (n := 0) (Fits.go (by assumption) (by omega)) ?_; first
  | (refine isi_tup_Var (Frag.In.keeps (by assumption) (Fr.keep (by assumption))) _ _ _ (News.get (by assumption) (by k_mem)) _ _ (fun t9 => ?_))
  | (refine isi_tup_Tup (Frag.In.keeps (by assumption) (Fr.keep (by assumption))) _ _ _ (News.get (by assumption) (by k_mem)) _ _ (fun t9 => ?_))
  | (refine isi_lst_Var (Frag.In.keeps (by assumption) (Fr.keep (by assumption))) _ _ _ (News.get (by assumption) (by k_mem)) _ _ (fun t9 => ?_))
  | (refine isi_lst_Tup (Frag.In.keeps (by assumption) (Fr.keep (by assumption))) _ _ _ (News.get (by assumption) (by k_mem)) _ _ (fun t9 => ?_))
  | (refine isi_lst_Lst (Frag.In.keeps (by assumption) (Fr.keep (by assumption))) _ _ _ (News.get (by assumption) (by k_mem)) _ _ (fun t9 => ?_))
  | (refine isi_dct_Var (Frag.In.keeps (by assumption) (Fr.keep (by assumption))) _ _ _ (News.get (by assumption) (by k_mem)) _ _ (fun t9 => ?_))
  | (refine isi_dct_Tup (Frag.In.keeps (by assumption) (Fr.keep (by assumption))) _ _ _ (News.get (by assumption) (by k_mem)) _ _ (fun t9 => ?_))
  | (refine isi_dct_Lst (Frag.In.keeps (by assumption) (Fr.keep (by assumption))) _ _ _ (News.get (by assumption) (by k_mem)) _ _ (fun t9 => ?_))
  | (refine isi_dct_Dct (Frag.In.keeps (by assumption) (Fr.keep (by assumption))) _ _ _ (News.get (by assumption) (by k_mem)) _ _ (fun t9 => ?_))
  | (refine isi_var_Var (Frag.In.keeps (by assumption) (Fr.keep (by assumption))) _ _ (News.get (by assumption) (by k_mem)) _ _ (fun t9 => ?_))
  | (refine isi_int_Var (Frag.In.keeps (by assumption) (Fr.keep (by assumption))) _ _ _ _ (fun t9 => ?_))
  | (refine isi_int_Tup (Frag.In.keeps (by assumption) (Fr.keep (by assumption))) _ _ _ _ (fun t9 => ?_))
  | (refine isi_int_Lst (Frag.In.keeps (by assumption) (Fr.keep (by assumption))) _ _ _ _ (fun t9 => ?_))
  | (refine isi_int_Dct (Frag.In.keeps (by assumption) (Fr.keep (by assumption))) _ _ _ _ (fun t9 => ?_))))
theorem unr_end1 {h₀ : Heap} {L : Addr} {s₁ : Shared} {rest : (Str → Option Value) → List (Addr × Obj) → Prop} {h' : Heap} {tk : Nat} {m' : Str → Option Value} {i : Addr} {o : Obj} {n' keep : List (Addr × Obj)} (F : Fr h₀ L h' m') (N : News h₀ L h' ((i, o) :: n')) (l : ∀ p ∈ n', p.1 < i)
    (hk : SubL keep n') (r : rest m' n') : UnrEndW h₀ L s₁ [(i, o)] (fun m' n' => SubL keep n' ∧ rest m' n') { s₁ with heap := h', toks := tk } :=
  ⟨h', tk, m', n', rfl, F, N, fun p hp q hq => by rw [List.mem_singleton.mp hq]; exact Nat.ne_of_lt (l p hp), hk, r⟩
local macro_rules | `(tactic| walk_at "UnrEndW cons") => `(tactic| (refine unr_end1 (by assumption) (by assumption) (by assumption) (And.intro (.head _) trivial) ?_))
/-- a tree of level: an int -/
theorem rf_int {w : World} {hb : Heap} (B : Base w hb) {σ : Sb} {d : Addr} {ks : List Int} {n : Nat} {i : Int} : ReifyC w hb σ d ks n (.int i) (.int i) := by
  intro v
  have KX := B.kx
  revert KX
  k_fill
  intro KX A s Av fit X hav hr hs Q E hI hG
  cases hr with
  | int _ tk0 =>
  obtain ⟨mean, mg, mb, T⟩ := B.top
  refine wpAny_call ?_
  k_dflt (refine' enter (binds := [(Str.ofString "o", .int i tk0), (Str.ofString "s", .ref d)]) B X hav ?k6 ?k7 fit.room ?k9 ?kB ?c2 ?c3 ?c4 ?c5 ?_; (case k6 => k_is); (case k7 => k_is); (case k9 => exact BindsTo.of_eq rfl); (case c5 => decide); (case kB => exact locs rfl); (case c2 => exact rfl); (case c3 => exact rfl); (case c4 => exact rfl); k_whole)
  intro L h₁ D F N l1 W
  dsimp only
  k_fold
  k_steps
  refine RC.use (isvar_R B) F N W (Fits.go fit (by omega)) (.int i tk0) mono_R0 mono_c ?_
  intro v9 h9 t9 D9 F9 N9 s9 W9 p9
  subst p9
  dsimp only [isV]
  k_steps
  rename_i Dt ht Ft Nt lt
  refine iter_tupTurns (vs := [.type "tuple", .type "list", .type "dict"]) (Fits.handled (Fits.go (m := 1) fit (by omega))) Ft Nt (.head _) rfl rfl ?_
  intro i' l1'
  k_steps
  exact hI _ _ rfl (.int i tk0) (Wk.done (Wk.cons (by assumption)) (by assumption) (by assumption))
end Mine
end
theorem Mine.flush37 : True ∧ True := by
  w_top off
  try (fail_if_success walk1)
  exact ⟨trivial, trivial⟩
section
open PySem PySem.W PyProof.Rows PySem.Spec PySem.Calls PySem.W.X
set_option maxRecDepth 100000
set_option maxHeartbeats 2000000
namespace Mine
def childOf (C : GCtx) : Nat → ChildSpec
  | 0 => fun _ _ _ _ _ _ _ => False
  | n + 1 => GS C n
theorem GS.mk {C : GCtx} {n : Nat} {Av : Addr → Prop} {u : Tm} {v : Value} {gs : GenState} {g : Nat} {Lg : Addr} {h : Heap} (x : GSof C (childOf C n) Av u v gs g Lg h) : GS C n Av u v gs g Lg h := by
  cases n with
  | zero => exact x
  | succ n => exact x
local macro_rules | `(tactic| k_mem) => `(tactic| first | exact List.Mem.head _ | assumption | exact Held.mem (by assumption) | (refine' List.Mem.tail _ ?_; k_mem))
local macro_rules | `(tactic| walk_at "call builtin:isinstance") => `(tactic| (refine wpAny_A0 (n := 0) (Fits.go (by assumption) (by omega)) ?_; first
  | (refine isi_tup_Var (Frag.In.keeps (by assumption) (Fr.keep (by assumption))) _ _ _ (News.get (by assumption) (by k_mem)) _ _ (fun t9 => ?_))
  | (refine isi_tup_Tup (Frag.In.keeps (by assumption) (Fr.keep (by assumption))) _ _ _ (News.get (by assumption) (by k_mem)) _ _ (fun t9 => ?_))
  | (refine isi_lst_Var (Frag.In.keeps (by assumption) (Fr.keep (by assumption))) _ _ _ (News.get (by assumption) (by k_mem)) _ _ (fun t9 => ?_))
  | (refine isi_lst_Tup (Frag.In.keeps (by assumption) (Fr.keep (by assumption))) _ _ _ (News.get (by assumption) (by k_mem)) _ _ (fun t9 => ?_))
  | (refine isi_lst_Lst (Frag.In.keeps (by assumption) (Fr.keep (by assumption))) _ _ _ (News.get (by assumption) (by k_mem)) _ _ (fun t9 => ?_))
  | (refine isi_dct_Var (Frag.In.keeps (by assumption) (Fr.keep (by assumption))) _ _ _ (News.get (by assumption) (by k_mem)) _ _ (fun t9 => ?_))
  | (refine isi_dct_Tup (Frag.In.keeps (by assumption) (Fr.keep (by assumption))) _ _ _ (News.get (by assumption) (by k_mem)) _ _ (fun t9 => ?_))
  | (refine isi_dct_Lst (Frag.In.keeps (by assumption) (Fr.keep (by assumption))) _ _ _ (News.get (by assumption) (by k_mem)) _ _ (fun t9 => ?_))
  | (refine isi_dct_Dct (Frag.In.keeps (by assumption) (Fr.keep (by assumption))) _ _ _ (News.get (by assumption) (by k_mem)) _ _ (fun t9 => ?_))
  | (refine isi_var_Var (Frag.In.keeps (by assumption) (Fr.keep (by assumption))) _ _ (News.get (by assumption) (by k_mem)) _ _ (fun t9 => ?_))
  | (refine isi_int_Var (Frag.In.keeps (by assumption) (Fr.keep (by assumption))) _ _ _ _ (fun t9 => ?_))
  | (refine isi_int_Tup (Frag.In.keeps (by assumption) (Fr.keep (by assumption))) _ _ _ _ (fun t9 => ?_))
  | (refine isi_int_Lst (Frag.In.keeps (by assumption) (Fr.keep (by assumption))) _ _ _ _ (fun t9 => ?_))
  | (refine isi_int_Dct (Frag.In.keeps (by assumption) (Fr.keep (by assumption))) _ _ _ _ (fun t9 => ?_))))
local macro_rules | `(tactic| walk_at "UnrEndW cons") => `(tactic| (refine unr_end1 (by assumption) (by assumption) (by assumption) (And.intro (.head _) trivial) ?_))

theorem mono_RN {t u : Tm} {σ : Sb} {key : Value} : ∀ v : Value, ∀ P P' : Addr → Obj → Prop, (∀ a o, P a o → P' a o) → (R P v u ∧ (Nx σ t none → v = key)) → (R P' v u ∧ (Nx σ t none → v = key)) := fun _ _ _ h r => ⟨r.1.mono h, r.2⟩
theorem RCF.useD {w : World} {hb h₀ : Heap} {A : Around} {s : Shared} {f : Value} {args : List Value} {cost : Nat} {pre : (Addr → Obj → Prop) → Prop} {post : Value → (Addr → Obj → Prop) → Prop} {L : Addr} {m : Str → Option Value} {D : List (Addr × Obj)} {Q E : Value → Shared → Prop} {Av : Addr → Prop} {outer : List Env} {env : Env}
    (C : RCF w hb f args cost pre post) (mu : List (Addr × Obj)) (F : Fr hb L s.heap m) (N : News hb L s.heap (mu ++ D)) (off : ∀ p ∈ D, p.1 ∉ mu.map (·.1)) (offS : ∀ p ∈ mu, p.1 ∉ frs outer) (W : WkF hb h₀ Av (frs outer) L D) (fit : Fits (A.deeper env) cost)
    (hfr : A.frames = some outer) (hf : env.frame = some L) (hk : env.scope.kind ≠ .module) (FF : h₀.FunFrames hb outer) (hpre : pre (PD D Av))
    (hm : ∀ P P' : Addr → Obj → Prop, (∀ a o, P a o → P' a o) → pre P → pre P') (hn : ∀ v, ∀ P P' : Addr → Obj → Prop, (∀ a o, P a o → P' a o) → post v P → post v P')
    (ret : ∀ v h' tk D', Fr hb L h' m → News hb L h' (mu ++ D') → (∀ p ∈ D', p.1 ∉ mu.map (·.1)) → SubF (frs outer) D D' → WkF hb h₀ Av (frs outer) L D' → post v (PD D' Av) → Q v { s with heap := h', toks := tk }) :
    wpAny (model PySem.Challenge.rw_fe0177_01.prog w) (A.deeper env) (call f args) Q E s :=
  RCF.useX C mu F N off offS W fit (by show A.frames.map _ = _; rw [hfr]; rfl) ⟨hf, hk, F.above⟩ FF hpre hm hn ret
theorem ys_result {C : GCtx} {child : ChildSpec} {evs : List Ev} {hI h₀ : Heap} {Av : Addr → Prop} {L : Addr} {i : Nat} {s₀ s : Shared} {v : Value} {u : Tm} {kap : Resume → Shared → Prop} {D mu : List (Addr × Obj)} {m : Str → Option Value} (S : SgW C hI s₀.heap Av L h₀ D) (F : Fr C.hb L s.heap m) (N : News C.hb L s.heap (mu ++ D)) (hT : ∀ a, C.T a → Av a)
    (he : evs[i]? = some (.result u)) (r : R (PD D Av) v u) (hg : s.gens = s₀.gens) (hs : Same s₀ s) (h : ∀ s'', Kp C [L] hI s''.heap → OKs C s''.heap → Kp C [] s.heap s''.heap → kap (.send v) s'') : YS C child evs hI Av L i s₀ v s kap := by
  have z := S.leave F N hT
  refine ⟨z.1, hs, z.2, S.leaveT F N, ?_⟩
  rw [he]
  exact ⟨hg, r.mono fun a o y => ⟨(N _ (List.mem_append_right _ y.1)).1, (N _ (List.mem_append_right _ y.1)).2.2, y.2⟩, fun s'' k ok => h s'' (z.1.trans (k.mono fun _ q => nomatch q)) ok k⟩
theorem ys_plain {C : GCtx} {child : ChildSpec} {evs : List Ev} {hI h₀ : Heap} {Av : Addr → Prop} {L : Addr} {i : Nat} {s₀ s : Shared} {kap : Resume → Shared → Prop} {D mu : List (Addr × Obj)} {m : Str → Option Value} (S : SgW C hI s₀.heap Av L h₀ D) (F : Fr C.hb L s.heap m) (N : News C.hb L s.heap (mu ++ D)) (hT : ∀ a, C.T a → Av a)
    (he : evs[i]? = some .plain) (hg : s.gens = s₀.gens) (hs : Same s₀ s) (h : ∀ s'', Kp C [L] hI s''.heap → OKs C s''.heap → Kp C [] s.heap s''.heap → kap (.send (.ref 198)) s'') : YS C child evs hI Av L i s₀ (.ref 198) s kap := by
  have z := S.leave F N hT
  refine ⟨z.1, hs, z.2, S.leaveT F N, ?_⟩
  rw [he]
  exact ⟨rfl, hg, fun s'' k ok => h s'' (z.1.trans (k.mono fun _ q => nomatch q)) ok k⟩
theorem SgW.new {C : GCtx} {hI hS h₀ h : Heap} {Av : Addr → Prop} {L x : Addr} {D mu : List (Addr × Obj)} {m : Str → Option Value} (S : SgW C hI hS Av L h₀ D) (F : Fr C.hb L h m) (N : News C.hb L h (mu ++ D)) (hT : ∀ a, C.T a → Av a) (hx : h.get? x = none) : hI.get? x = none := by
  have z := S.leave F N hT
  cases q : hI.get? x with
  | none => rfl
  | some o =>
    by_cases t : C.T x
    · obtain ⟨o', e⟩ := z.2.te x t
      rw [hx] at e; cases e
    · by_cases e : x = L
      · obtain ⟨o', _, _, e', _⟩ := F.ns
        rw [← e, hx] at e'; cases e'
      · obtain ⟨sl, e'⟩ := z.1.some q t fun m => e (List.mem_singleton.mp m)
        rw [hx] at e'; cases e'
theorem kpA_walk {hb h h' : Heap} {Av : Addr → Prop} {L : Addr} {D D' mu : List (Addr × Obj)} {m m' : Str → Option Value} (F : Fr hb L h m) (F' : Fr hb L h' m') (N' : News hb L h' (mu ++ D')) (al : ∀ b o, h.get? b = some o → hb.get? b = none → b ∉ L :: mu.map (·.1) → (b, o) ∈ D) (sub : ∀ p ∈ D, p ∈ D') : KpA (fun a => Av a ∨ a ∈ L :: mu.map (·.1)) h h' := fun b o e n => by
  cases q : hb.get? b with
  | none => exact (N' _ (List.mem_append_right _ (sub _ (al b o e q fun m => n (.inr m))))).1
  | some o' =>
    have z := F.keep b o' q
    rw [e] at z
    cases z
    exact F'.keep b _ q
theorem ys_child {C : GCtx} {n : Nat} {evs : List Ev} {hI h₀ hc : Heap} {Av : Addr → Prop} {L Lc : Addr} {i : Nat} {s₀ s : Shared} {v : Value} {u : Tm} {gs : GenState} {kap : Resume → Shared → Prop} {D mu : List (Addr × Obj)} {m : Str → Option Value} (wf : C.Wf) (S : SgW C hI s₀.heap Av L h₀ D) (F : Fr C.hb L s.heap m) (N : News C.hb L s.heap (mu ++ D)) (hT : ∀ a, C.T a → Av a) (hF : ∀ a ∈ frs C.outer, Av a)
    (he : evs[i]? = some (.child u)) (gf : GF C.w C.hb n (fun a => Av a ∨ a ∈ L :: mu.map (·.1)) u v gs s₀.gens.size Lc hc) (k : KpA (fun a => Av a ∨ a ∈ L :: mu.map (·.1)) hc s.heap) (b : gs.bare = true) (hn : hI.get? Lc = none) (hg : s.gens = s₀.gens.push gs) (hs : Same s₀ s)
    (h : ∀ r s'', Kp C [Lc] s.heap s''.heap → OKs C s''.heap → R (At C.hb s''.heap (fun a => Av a ∨ a ∈ L :: mu.map (·.1))) r u → kap (.send r) s'') : YS C (GS C n) evs hI Av L i s₀ v s kap := by
  have z := S.leave F N hT
  refine ⟨z.1, hs, z.2, S.leaveT F N, ?_⟩
  rw [he]
  exact ⟨_, gs, Lc, fun a h => .inl h, S.have F N, hn, hg, b, (gf C.A C.outer C.T _ wf ⟨fun _ h => h, fun _ _ h _ => h, fun a h => .inl (hT a h), fun a h => .inl (hF a h)⟩).kpA k, h⟩
theorem seg_last {C : GCtx} {hI : Heap} {L : Addr} {Y : Protocol} {s'' : Shared} {c : Code} {M : Model} (k : Kp C [L] hI s''.heap) (ok : OKs C s''.heap) : Seg M C.A (RS C hI L) Y 0 s'' c (.pure (.done (.ret .none))) [] s'' :=
  seg_end (.ok (.ret .none)) ⟨rfl, rfl, rfl, ⟨rfl, rfl⟩, k, ok, rfl⟩
theorem R.only {D : List (Addr × Obj)} {Av : Addr → Prop} {hb h : Heap} {L : Addr} {x : Addr} {k : Int} {t : Tm} (N : News hb L h D) (r : R (PD D Av) (.ref x) (.var k)) (r' : R (PD D Av) (.ref x) t) : t = .var k := by
  have f : ∀ {a : Addr} {o o' : Obj}, PD D Av a o → PD D Av a o' → o = o' := fun y z => Option.some.inj ((N _ y.1).1.symm.trans (N _ z.1).1)
  cases r with
  | var a b =>
    cases r' with
    | var a' b' =>
      have e := f a a'
      simp only [Obj.mk.injEq, Option.some.injEq] at e
      obtain ⟨_, rfl, _⟩ := e
      have e2 := f b b'
      simp only [Obj.mk.injEq, Data.dict.injEq, Array.mk.injEq, List.cons.injEq, DictEntry.mk.injEq, Value.int.injEq] at e2
      obtain ⟨_, _, ⟨⟨⟨_, _, e3, _⟩, _⟩, _⟩, _⟩ := e2
      rw [e3]
    | tup2 a' _ _ => cases f a a'
    | tup3 a' _ _ => cases f a a'
    | lst a' _ _ => cases f a a'
    | dct a' _ _ => cases f a a'
theorem is_off {M : Model} {A : Around} {E Q : Value → Shared → Prop} {s : Shared} {hb : Heap} {L ox dx : Addr} {D : List (Addr × Obj)} {Av : Addr → Prop} {v : Value} {t : Tm} (N : News hb L s.heap D) (r : R (PD D Av) v t) (ho : PD D Av ox (varObj dx)) (hne : v ≠ .ref ox) (hq : Q (.bool false) s) : wpAny M A (compareOp .Is v (.ref ox)) Q E s := by
  have g : ∀ {a : Addr} {o : Obj}, PD D Av a o → v = .ref a → wpAny M A (compareOp .Is v (.ref ox)) Q E s := fun y e => by
    subst e
    exact wpAny_bind (PySem.SeqAt.wpAny_isSame_ref_other' (fun e => hne (by rw [e])) (N _ y.1).1 (N _ ho.1).1 (by simp) (wpAny_pure hq))
  cases r with
  | int i tk => exact wpAny_bind (wpAny_pure (wpAny_pure hq))
  | var a _ => exact g a rfl
  | tup2 a _ _ => exact g a rfl
  | tup3 a _ _ => exact g a rfl
  | lst a _ _ => exact g a rfl
  | dct a _ _ => exact g a rfl
theorem rf_var {w : World} {hb : Heap} (B : Base w hb) {σ : Sb} {d : Addr} {ks : List Int} {n n0 : Nat} {k : Int} {te u : Tm} (hch : Ch σ n0 (.var k) te)
    (hor : (σ.Has k none ∧ te = .var k ∧ u = .var k) ∨ (te ≠ .var k ∧ ReifyC w hb σ d ks n te u)) : ReifyC w hb σ d ks (n + 1) (.var k) u := by
  intro v
  have KX := B.kx
  revert KX
  k_fill
  intro KX A s Av fit X hav hr hs Q E hI hG
  have hr' := hr
  cases hr with
  | @var ox dx hsh t0 _ tk0 ep hx hd =>
  obtain ⟨mean, mg, mb, T⟩ := B.top
  refine wpAny_call ?_
  k_dflt (refine' enter (binds := [(Str.ofString "o", .ref ox), (Str.ofString "s", .ref d)]) B X hav ?k6 ?k7 fit.room ?k9 ?kB ?c2 ?c3 ?c4 ?c5 ?_; (case k6 => k_is); (case k7 => k_is); (case k9 => exact BindsTo.of_eq rfl); (case c5 => decide); (case kB => exact locs rfl); (case c2 => exact rfl); (case c3 => exact rfl); (case c4 => exact rfl); k_whole)
  intro L h₁ D F N l1 W
  dsimp only
  k_fold
  k_steps
  refine RC.use (isvar_R B) F N W (Fits.go fit (by omega)) (hr'.mono fun _ _ => W.pd) mono_R0 mono_c ?_
  intro v9 h9 t9 D9 F9 N9 s9 W9 p9
  subst p9
  dsimp only [isV]
  k_steps
  refine wpAny_call ?_
  k_dflt (refine' call_gen (binds := [(Str.ofString "o", .ref ox), (Str.ofString "s", .ref d)]) B F9.keep ?k6 ?k7 (Fits.room (Fits.go (m := 1) fit (by omega))) ?k9 ?kB ?c2 ?c3 ?c4 ?c5 ?_; (case k6 => k_is); (case k7 => k_is); (case k9 => exact BindsTo.of_eq rfl); (case c5 => decide); (case kB => exact locs rfl); (case c2 => exact rfl); (case c3 => exact rfl); (case c4 => exact rfl); k_whole)
  intro Lc ga h8 t8 nm qn x8 ns8 nL8 bL8 lt8 g8 gn8
  have F8 := Fr_ext F9 x8
  have nLL : Lc ≠ L := fun e => by obtain ⟨o, _, _, q, _⟩ := F9.ns; rw [← e, nL8] at q; cases q
  have ngL : ga ≠ L := fun e => by obtain ⟨o, _, _, q, _⟩ := F9.ns; rw [← e, gn8] at q; cases q
  have bL8' : s.heap.get? Lc = none := by
    cases q : s.heap.get? Lc with
    | none => rfl
    | some o => rw [(Wk.done W9 F9 N9) _ _ q] at nL8; cases nL8
  have bg8' : s.heap.get? ga = none := by
    cases q : s.heap.get? ga with
    | none => rfl
    | some o => rw [(Wk.done W9 F9 N9) _ _ q] at gn8; cases gn8
  have bs := Nat.le_trans (B.size F9.keep) bL8
  obtain ⟨oLc, es8, ep8, gLc, r8⟩ := id ns8
  have bLb : hb.get? Lc = none := by
    cases q : hb.get? Lc with
    | none => rfl
    | some o => exact nomatch nL8.symm.trans (F9.keep _ _ q)
  have N8 : News hb L h8 ((Lc, oLc) :: allX hb h8 [L, Lc]) := fun p hp => by
    rcases List.mem_cons.mp hp with rfl | hp
    · exact ⟨gLc, nLL, bLb⟩
    · exact News_all (L := L) (X := [L, Lc]) (.head _) p hp
  have off8 : ∀ p ∈ allX hb h8 [L, Lc], p.1 ∉ [Lc] := fun p hp q => (allX_mem.mp hp).2.2 (.tail _ q)
  have s8 : ∀ p ∈ D9, p ∈ allX hb h8 [L, Lc] := fun p hp => allX_mem.mpr ⟨(N9 p hp).2.2, x8 _ _ (N9 p hp).1, fun q => (List.mem_cons.mp q).elim (N9 p hp).2.1 fun q => by
    have z := (N9 p hp).1
    rw [List.mem_singleton.mp q] at z
    exact nomatch nL8.symm.trans z⟩
  have W8 := W9.sub s8
  have mga : (ga, genObj s.gens.size nm qn) ∈ allX hb h8 [L, Lc] := allX_mem.mpr ⟨(by
    cases q : hb.get? ga with
    | none => rfl
    | some o => exact nomatch gn8.symm.trans (F9.keep _ _ q)), g8, fun q => (List.mem_cons.mp q).elim ngL fun q => Nat.ne_of_gt lt8 (List.mem_singleton.mp q)⟩
  clear F9
  dsimp only
  k_steps
  refine RC.useX (gen_new B ga) [(Lc, oLc)] F8 N8 off8 W8 (Fits.go fit (by omega)) trivial mono_true (fun _ _ _ h x => GenI.mono h x) ?_
  intro v7 h7 t7 D7 F7 N7 o7 s7 W7 p7
  replace N7 : News hb L h7 ((Lc, oLc) :: D7) := N7
  k_steps
  have e7 : Ext s.heap h7 := Wk.done W7 F7 fun p hp => N7 p (.tail _ hp)
  have at7 : ∀ a o, PD D7 Av a o → At hb h7 (fun a => Av a ∨ a = Lc) a o := fun a o y => ⟨(N7 _ (.tail _ y.1)).1, (N7 _ (.tail _ y.1)).2.2, fun z => z.elim y.2 fun e => o7 _ y.1 (e ▸ .head _)⟩
  refine hG v7 ga _ Lc h7 _ rfl e7 bL8' (p7.mono fun a o y => ⟨(at7 a o y).1, (at7 a o y).2.1, y.2⟩) rfl ?_
  intro A' outer T' Av' wf ok
  have ns7 : h7.Ns Lc _ := ⟨oLc, es8, ep8, (N7 _ (.head _)).1, r8⟩
  have up7 : ∀ a o, At hb h7 Av a o → At hb h7 Av' a o := fun a o y => ⟨y.1, y.2.1, fun z => y.2.2 (ok.down a o z y.1)⟩
  have upL : ∀ a o, At hb h7 (fun a => Av a ∨ a = Lc) a o → At hb h7 (fun a => Av' a ∨ a = Lc) a o := fun a o y => ⟨y.1, y.2.1, fun z => z.elim (fun z => y.2.2 (.inl (ok.down a o z y.1))) fun z => y.2.2 (.inr z)⟩
  have nAvL : ¬ Av' Lc := fun z => by
    obtain ⟨oL, _, _, q, _⟩ := ns7
    obtain ⟨o, e⟩ := hav _ (ok.down _ _ z q)
    rw [bL8'] at e; cases e
  have atg : At hb h7 (fun a => Av a ∨ a = Lc) ga (genObj s.gens.size nm qn) := at7 _ _ ⟨s7 _ mga, fun z => by obtain ⟨o, e⟩ := hav _ z; rw [bg8'] at e; cases e⟩
  have goes : ∀ s1 : Shared, KpA Av' h7 s1.heap → Have Av' s1.heap → OKs ⟨w, hb, A', outer, T'⟩ s1.heap → ∃ D h₀, SgW ⟨w, hb, A', outer, T'⟩ s1.heap s1.heap Av' Lc h₀ D ∧ Fr hb Lc s1.heap (fun y => [(Str.ofString "o", .ref ox), (Str.ofString "s", .ref d)].reverse.lookup y) ∧ News hb Lc s1.heap D ∧ (∀ a o, At hb s.heap Av a o → PD D Av' a o) := fun s1 kA hv oks => by
    obtain ⟨D6, h6, S6, F6, N6, o6, pd6⟩ := seg_start (C := ⟨w, hb, A', outer, T'⟩) (mu := []) (Kp.refl _ [Lc] s1.heap) oks (Heap.Ns.at' ns7 fun o e => kA Lc o e nAvL) bs nAvL hv ok.t ok.f (fun p hp => nomatch hp)
    refine ⟨D6, h6, S6, F6, N6, fun a o y => pd6 a o ?_⟩
    have z := At.kpA kA (up7 a o (At.ext e7 y))
    refine ⟨z.1, z.2.1, fun q => q.elim z.2.2 fun q => ?_⟩
    have y1 := y.1
    rw [List.mem_singleton.mp q, bL8'] at y1
    cases y1
  clear hG hI
  have fit' : Fits A' 80 := wf.fits
  have fr' : A'.frames = some outer := wf.frames
  rcases hor with ⟨hk, rfl, rfl⟩ | ⟨hne, child⟩
  · refine GS.mk ⟨ga, nm, qn, [.result (.var k)], p7.mono fun a o y => upL a o (at7 a o y), upL _ _ atg, rfl, fun s1 kA hv oks => ⟨rfl, seg_func ?_⟩⟩
    obtain ⟨D6, h6, S6, F6, N6, conv⟩ := goes s1 kA hv oks
    refine seg_execs_cons (sg_stmt ?_)
    rw [over_func]
    k_steps
    refine RCF.useD (tget_new B hch) [] F6 N6 (fun _ _ h => nomatch h) (fun _ h => nomatch h) S6.W (Fits.go fit' (by omega)) fr' rfl (fun q => nomatch q) S6.FF ⟨hr'.mono conv, hs.mono conv⟩ mono_RS mono_RN ?_
    intro v5 h5 t5 D5 F5 N5 o5 s5 W5 p5
    obtain rfl := p5.2 (.free hk)
    k_steps
    refine seg_execs_cons (sg_If ?_)
    rw [over_func]
    k_steps
    refine seg_execs_cons (sg_Expr_Yield (n := 0) rfl rfl rfl ?_ (YS.mono 0 _))
    rw [over_func]
    k_steps
    refine ys_result (mu := []) ⟨W5, S6.FF, S6.kp, S6.tt⟩ (by assumption) (by assumption) ok.t rfl p5.1 rfl ⟨rfl, rfl⟩ fun s2 kI2 oks2 k2 => ?_
    refine wpAny_dropValue ?_
    exact seg_last kI2 oks2
  · refine GS.mk ⟨ga, nm, qn, [if isI te = true then .result u else .child u], p7.mono fun a o y => upL a o (at7 a o y), upL _ _ atg, by cases isI te <;> rfl, fun s1 kA hv oks => ⟨rfl, seg_func ?_⟩⟩
    obtain ⟨D6, h6, S6, F6, N6, conv⟩ := goes s1 kA hv oks
    refine seg_execs_cons (sg_stmt ?_)
    rw [over_func]
    k_steps
    refine RCF.useD (tget_new B hch) [] F6 N6 (fun _ _ h => nomatch h) (fun _ h => nomatch h) S6.W (Fits.go fit' (by omega)) fr' rfl (fun q => nomatch q) S6.FF ⟨hr'.mono conv, hs.mono conv⟩ mono_RS mono_RN ?_
    intro v5 h5 t5 D5 F5 N5 o5 s5 W5 p5
    have ne5 : v5 ≠ .ref ox := fun e => hne (R.only N5 (hr'.mono fun a o y => PD.subF s5 ok.f (conv a o y)) (e ▸ p5.1))
    k_steps
    refine seg_execs_cons (sg_If ?_)
    rw [over_func]
    k_steps
    refine is_off (by assumption) p5.1 (PD.subF s5 ok.f (conv _ _ hx)) ne5 ?_
    k_steps
    refine seg_execs_cons (sg_Expr_Yield (n := 0) rfl rfl rfl ?_ (YS.mono 0 _))
    rw [over_func]
    k_steps
    rename_i Fx7 Nx7
    refine ReifyC.useF child [] Fx7 Nx7 (fun _ _ h => nomatch h) W5 (Fits.go fit' (by omega)) S6.FF p5.1 ((hs.mono conv).mono fun a o y => PD.subF s5 ok.f y) (fun h4 t4 D4 i4 r4 F4 N4 o4 s4 W4 => ?_) fun v4 ga4 gs4 Lc4 h4 t4 D4 i4 n4 g4 b4 gf4 F4 N4 o4 s4 W4 al4 => ?_
    · refine ys_result (mu := []) ⟨W4, S6.FF, S6.kp, S6.tt⟩ F4 N4 ok.t (by rw [if_pos i4]; rfl) r4 rfl ⟨rfl, rfl⟩ fun s2 kI2 oks2 k2 => ?_
      refine wpAny_dropValue ?_
      exact seg_last kI2 oks2
    · have S4 : SgW ⟨w, hb, A', outer, T'⟩ s1.heap s1.heap Av' Lc h6 D4 := ⟨W4, S6.FF, S6.kp, S6.tt⟩
      refine ys_child (C := ⟨w, hb, A', outer, T'⟩) (mu := []) wf S4 F4 N4 ok.t ok.f (by rw [if_neg (by rw [i4]; decide)]; rfl) gf4 (fun _ _ e _ => e) b4 (SgW.new (mu := []) ⟨W5, S6.FF, S6.kp, S6.tt⟩ Fx7 Nx7 ok.t n4) rfl ⟨rfl, rfl⟩ fun r s2 k2 oks2 r2 => ?_
      refine wpAny_dropValue ?_
      refine seg_last ?_ oks2
      exact (S4.leave (mu := []) F4 N4 ok.t).1.drop k2 fun z hz => .inr (by rw [List.mem_singleton.mp hz]; exact SgW.new (mu := []) ⟨W5, S6.FF, S6.kp, S6.tt⟩ Fx7 Nx7 ok.t n4)
end Mine
end
theorem Mine.flush38 : True ∧ True := by
  w_top off
  try (fail_if_success walk1)
  exact ⟨trivial, trivial⟩
section
open PySem PySem.W PyProof.Rows PySem.Spec PySem.Calls PySem.W.X
set_option maxRecDepth 100000
set_option maxHeartbeats 2000000
namespace Mine
inductive RL (P : Addr → Obj → Prop) : List Value → List Tm → Prop where
  | nil : RL P [] []
  | cons {v : Value} {t : Tm} {vs : List Value} {ts : List Tm} : R P v t → RL P vs ts → RL P (v :: vs) (t :: ts)
theorem RL.mono {P P' : Addr → Obj → Prop} (h : ∀ a o, P a o → P' a o) {vs : List Value} {ts : List Tm} (r : RL P vs ts) : RL P' vs ts := by
  induction r with
  | nil => exact .nil
  | cons a _ ih => exact .cons (a.mono h) ih
theorem RL.snoc {P : Addr → Obj → Prop} {vs : List Value} {ts : List Tm} {v : Value} {t : Tm} (r : RL P vs ts) (x : R P v t) : RL P (vs ++ [v]) (ts ++ [t]) := by
  induction r with
  | nil => exact .cons x .nil
  | cons a _ ih => exact .cons a ih
abbrev viewObj (d : Addr) : Obj := { cls := .type "dict_items", data := .fields #[.ref d] }
/-- what a for of the generator runs over -/
inductive Src (P : Addr → Obj → Prop) : Value → List Tm → Prop where
  | tup {a : Addr} {vs : List Value} {n : Nat} {ts : List Tm} : P a (tupObj vs n) → RL P vs ts → Src P (.ref a) ts
  | lst {a : Addr} {vs : List Value} {n : Nat} {ts : List Tm} : P a (lstObj vs n) → RL P vs ts → Src P (.ref a) ts
  | dct {vw d : Addr} {t0 t1 : Tok} {v u : Value} {n : Nat} {t t' : Tm} : P vw (viewObj d) → P d (dctObj t0 t1 v u n) → R P v t → R P u t' → Src P (.ref vw) [.tup2 (.int 0) t, .tup2 (.int 1) t']
theorem Src.mono {P P' : Addr → Obj → Prop} (h : ∀ a o, P a o → P' a o) {v : Value} {ts : List Tm} (r : Src P v ts) : Src P' v ts := by
  cases r with
  | tup a b => exact .tup (h _ _ a) (b.mono h)
  | lst a b => exact .lst (h _ _ a) (b.mono h)
  | dct a b c d => exact .dct (h _ _ a) (h _ _ b) (c.mono h) (d.mono h)
/-- an iterator, with what it has left -/
inductive Feed (h : Heap) (P : Addr → Obj → Prop) (it : Addr) : List Tm → Prop where
  | tup {t : Addr} {vs : List Value} {n i : Nat} {ts : List Tm} : h.IsTupleIter it t i → P t (tupObj vs n) → RL P (vs.drop i) ts → Feed h P it ts
  | lst {t : Addr} {vs : List Value} {n i : Nat} {ts : List Tm} : h.IsListIter it t i → P t (lstObj vs n) → RL P (vs.drop i) ts → Feed h P it ts
  | d0 {d : Addr} {t0 t1 : Tok} {v u : Value} {n : Nat} {t t' : Tm} : IsItemIter h it d 0 2 n .none .none → P d (dctObj t0 t1 v u n) → R P v t → R P u t' → Feed h P it [.tup2 (.int 0) t, .tup2 (.int 1) t']
  | d1 {d a : Addr} {oa : Obj} {f : Bool} {t0 t1 : Tok} {v u ok ov : Value} {n : Nat} {t' : Tm} : KdxIt h it d 1 2 n ok ov a f → P a oa → P d (dctObj t0 t1 v u n) → R P u t' → Feed h P it [.tup2 (.int 1) t']
  | d2 {d a : Addr} {oa : Obj} {f : Bool} {t0 t1 : Tok} {v u ok ov : Value} {n : Nat} : KdxIt h it d 2 2 n ok ov a f → P a oa → P d (dctObj t0 t1 v u n) → Feed h P it []
theorem Feed.mono {h h' : Heap} {P P' : Addr → Obj → Prop} (k : ∀ a o, P a o → P' a o) {it : Addr} (e : ∀ o, h.get? it = some o → h'.get? it = some o) {ts : List Tm} (f : Feed h P it ts) : Feed h' P' it ts := by
  cases f with
  | tup a b c => exact .tup (a.at e) (k _ _ b) (c.mono k)
  | lst a b c => exact .lst (a.at e) (k _ _ b) (c.mono k)
  | d0 a b c d => exact .d0 (e _ a) (k _ _ b) (c.mono k) (d.mono k)
  | d1 a b c d => exact .d1 (e _ a) (k _ _ b) (k _ _ c) (d.mono k)
  | d2 a b c => exact .d2 (e _ a) (k _ _ b) (k _ _ c)
theorem int_key {prog : Program} {w : World} {k : Int} {v : Value} (h : (PySem.intKind prog w).is k v = true) : ∃ t, v = .int k t := by
  cases v <;> simp_all [PySem.intKind, Value.isInt]
section
variable {w : World} {hb : Heap} {A : Around} {s : Shared} {Av : Addr → Prop}
theorem src_iter (B : Base w hb) {Q E : Value → Shared → Prop} {v : Value} {ts : List Tm} (X : Ext hb s.heap) (hav : Have Av s.heap) (r : Src (At hb s.heap Av) v ts)
    (hQ : ∀ it h' o', Ext s.heap h' → s.heap.get? it = none → h'.get? it = some o' → Feed h' (At hb h' fun a => Av a ∨ a = it) it ts → Q (.ref it) { s with heap := h' }) : wpAny (MG w) A (pyIter v) Q E s := by
  have nn : s.heap.get? s.heap.objs.size = none := Heap.get?_none_of_le (Nat.le_refl _)
  have pk : ∀ o : Obj, Ext s.heap (s.heap.push o) := fun o b o' e => Heap.get?_push_of_some _ e
  have px : ∀ (o : Obj) a o', At hb s.heap Av a o' → At hb (s.heap.push o) (fun a => Av a ∨ a = s.heap.objs.size) a o' := fun o a o' y => ⟨pk o _ _ y.1, y.2.1, fun z => z.elim y.2.2 fun z => by
    have q := y.1
    rw [z, nn] at q; cases q⟩
  cases r with
  | tup a b => exact wpAny_pyIter_tuple ⟨_, a.1, rfl, _, rfl⟩ (hQ _ _ _ (pk _) nn (Heap.get?_push_size _ rfl) (.tup (i := 0) ⟨_, Heap.get?_push_size _ rfl, rfl, rfl⟩ (px _ _ _ a) (b.mono (px _))))
  | lst a b => exact wpAny_pyIter_list ⟨_, a.1, rfl, _, rfl⟩ (hQ _ _ _ (pk _) nn (Heap.get?_push_size _ rfl) (.lst (i := 0) ⟨_, Heap.get?_push_size _ rfl, rfl, rfl⟩ (px _ _ _ a) (b.mono (px _))))
  | dct a b c d => exact wpAny_pyIter_items ⟨_, a.1, rfl, rfl⟩ (dct_at b.1) (hQ _ _ _ (pk _) nn (Heap.get?_push_size _ rfl) (.d0 (Heap.get?_push_size _ rfl) (px _ _ _ b) (c.mono (px _)) (d.mono (px _))))
theorem at_step {it : Addr} {h' : Heap} (hit : Av it) (k : ∀ b o, b ≠ it → s.heap.get? b = some o → h'.get? b = some o) {a : Addr} {o : Obj} (y : At hb s.heap Av a o) : At hb h' Av a o :=
  ⟨k a o (fun e => y.2.2 (e ▸ hit)) y.1, y.2⟩
theorem feed_next (B : Base w hb) {Q : Option Value → Shared → Prop} {E : Value → Shared → Prop} {it : Addr} {t : Tm} {ts : List Tm} (X : Ext hb s.heap) (hav : Have Av s.heap) (hit : Av it) (f : Feed s.heap (At hb s.heap Av) it (t :: ts))
    (hQ : ∀ v h' o', (∀ b o, b ≠ it → s.heap.get? b = some o → h'.get? b = some o) → h'.get? it = some o' → Feed h' (At hb h' Av) it ts → R (At hb h' Av) v t → Q (some v) { s with heap := h' }) : wpAny (MG w) A (pyNext (.ref it)) Q E s := by
  have new : ∀ {h' : Heap} {o : Obj}, h'.get? s.heap.objs.size = some o → At hb h' Av s.heap.objs.size o := fun e => ⟨e, (by
    cases q : hb.get? s.heap.objs.size with
    | none => rfl
    | some o => exact absurd (Heap.lt_size (X _ _ q)) (Nat.lt_irrefl _)), fun z => by
    obtain ⟨o, e⟩ := hav _ z
    exact absurd (Heap.lt_size e) (Nat.lt_irrefl _)⟩
  cases f with
  | @tup ta vs n i _ a b c =>
    generalize hd : vs.drop i = l at c
    cases c with
    | @cons v _ vs' _ c1 c2 =>
      have hx : vs.toArray[i]? = some v := by
        have : (vs.drop i)[0]? = some v := by rw [hd]; rfl
        simpa using this
      have hd' : vs.drop (i + 1) = vs' := by
        have : (vs.drop i).drop 1 = vs' := by rw [hd]; rfl
        rw [List.drop_drop] at this; exact this
      refine wpAny_pyNext_tuple_item a ⟨_, b.1, rfl, _, rfl⟩ hx fun h' a' k => ?_
      have k' := fun b o (n : b ≠ it) e => k.extBut b o n e
      obtain ⟨o', ho', _⟩ := id a'
      exact hQ _ _ _ k' ho' (.tup a' (at_step hit k' b) (by rw [hd']; exact c2.mono fun _ _ => at_step hit k')) (c1.mono fun _ _ => at_step hit k')
  | @lst ta vs n i _ a b c =>
    generalize hd : vs.drop i = l at c
    cases c with
    | @cons v _ vs' _ c1 c2 =>
      have hx : vs.toArray[i]? = some v := by
        have : (vs.drop i)[0]? = some v := by rw [hd]; rfl
        simpa using this
      have hd' : vs.drop (i + 1) = vs' := by
        have : (vs.drop i).drop 1 = vs' := by rw [hd]; rfl
        rw [List.drop_drop] at this; exact this
      refine wpAny_pyNext_list_item a ⟨_, b.1, rfl, _, rfl⟩ hx fun h' a' k => ?_
      have k' := fun b o (n : b ≠ it) e => k.extBut b o n e
      obtain ⟨o', ho', _⟩ := id a'
      exact hQ _ _ _ k' ho' (.lst a' (at_step hit k' b) (by rw [hd']; exact c2.mono fun _ _ => at_step hit k')) (c1.mono fun _ _ => at_step hit k')
  | @d0 d t0 t1 v u n t t' a b c e =>
    refine wpAny_pyNext_items_item (kvs := [(0, v), (1, u)]) a (dct_at b.1) rfl fun key h' hk ho hT hsz k => ?_
    have hkey : ∃ tk, key = .int 0 tk := int_key hk
    obtain ⟨tk, rfl⟩ := hkey
    exact hQ _ _ _ k ho (.d1 (f := false) ho (new hT) (at_step hit k b) (e.mono fun _ _ => at_step hit k)) (.tup2 (new hT) (.int 0 tk) (c.mono fun _ _ => at_step hit k))
  | @d1 d aa oa f t0 t1 v u ok ov n t' a b c e =>
    refine kdx_next_out (kvs := [(0, v), (1, u)]) a b.1 (fun q => b.2.2 (q ▸ hit)) (dct_at c.1) rfl fun key h' hk ho hT hsz k => ?_
    have hkey : ∃ tk, key = .int 1 tk := int_key hk
    obtain ⟨tk, rfl⟩ := hkey
    exact hQ _ _ _ k ho (.d2 ho (at_step hit k b) (at_step hit k c)) (.tup2 (new hT) (.int 1 tk) (e.mono fun _ _ => at_step hit k))
theorem feed_end (B : Base w hb) {Q : Option Value → Shared → Prop} {E : Value → Shared → Prop} {it : Addr} (hh : A.handled = none) (hit : Av it) (f : Feed s.heap (At hb s.heap Av) it [])
    (hQ : ∀ h', (∀ b o, b ≠ it → s.heap.get? b = some o → h'.get? b = some o) → Q none { s with heap := h' }) : wpAny (MG w) A (pyNext (.ref it)) Q E s := by
  cases f with
  | @tup ta vs n i _ a b c =>
    generalize hd : vs.drop i = l at c
    cases c with
    | nil =>
      have hx : vs.toArray[i]? = none := by
        have := List.drop_eq_nil_iff.mp hd
        simpa using this
      exact wpAny_pyNext_tuple_end hh a ⟨_, b.1, rfl, _, rfl⟩ hx fun h' k => hQ h' fun b o n e => k b o n e
  | @lst ta vs n i _ a b c =>
    generalize hd : vs.drop i = l at c
    cases c with
    | nil =>
      have hx : vs.toArray[i]? = none := by
        have := List.drop_eq_nil_iff.mp hd
        simpa using this
      exact wpAny_pyNext_list_end hh a ⟨_, b.1, rfl, _, rfl⟩ hx fun h' k => hQ h' fun b o n e => k b o n e
  | @d2 d aa oa f t0 t1 v u ok ov n a b c =>
    exact kdx_end_out (kvs := [(0, v), (1, u)]) hh a (dct_at c.1) rfl fun h' k => hQ h' fun b o n e => k b o n e
end
end Mine
end
theorem Mine.flush39 : True ∧ True := by
  w_top off
  try (fail_if_success walk1)
  exact ⟨trivial, trivial⟩
section
open PySem PySem.W PyProof.Rows PySem.Spec PySem.Calls PySem.W.X
set_option maxRecDepth 100000
set_option maxHeartbeats 4000000
namespace Mine
theorem lk_keys : typeLookup (.type "list") "keys" = pure none := by rw [typeLookup_type, builtinLookup_eq_fast]; kernel_rfl
theorem keys_none {w : World} {A : Around} {E : Value → Shared → Prop} {s : Shared} {a : Addr} {xs : Array Value} {k : Nat} {Q : Option Value → Shared → Prop}
    (hx : s.heap.get? a = some { cls := .type "list", data := .seq xs k }) (hA : A.handled = none) (h : ∀ h' tk, Ext s.heap h' → Q none { s with heap := h', toks := tk }) :
    wpAny (MG w) A (getAttr? (.ref a) "keys") Q E s := by
  obtain ⟨hp, g, d, tk, os⟩ := s
  have hT : ∀ tk', (⟨hp, g, d, tk', os⟩ : Shared).TypeIs (.ref a) "list" := fun _ => ⟨_, hx, rfl⟩
  have f1 := PySem.sub_AttributeError
  have f3 := PySem.F.slot_list_getattribute.lookup
  have f4 := PySem.F.slot_list_getattribute.bind (.ref a)
  have f5 := PySem.am_list_getattr_none
  unfold getAttr? getAttrBy? getAttrBy
  repeat (any_goals (first | assumption | exact hT _ | ((with_reducible show wpAny _ _ (call (Value.builtin "list.__getattribute__") _ _) _ _ _); refine call_meets PySem.F.slot_list_getattribute (hT _) PySem.am_entry_list_getattribute (PySem.F.args_list_getattribute_2 _ _) (PySem.meets_getattribute_miss_list a xs k #[] "keys" _ lk_keys (by decide) (by size_fits)) ⟨hx, hA, fun h' tk' e hx' => ?_⟩) | wp_step))
  obtain ⟨t', u', he⟩ := hx'.there
  show wpAny _ _ (getattributeRaised _ _ _ _ _ _ _) _ _ _
  unfold getattributeRaised
  repeat (any_goals (first | assumption | wp_step))
  all_goals exact h _ _ hx'.keeps
theorem loop_entry : entryFor table "dict.update.loop" = some Builtin.«dict.update.loop» := entryFor_of_tree (by kernel_rfl)
section
variable {w : World} {A : Around} {R : Result → Shared → Prop} {s : Shared} {d it lr e : Addr} {items : Array Value} {idx n : Nat} {k i : Int} {tk : Tok} {v : Value} {kvs : List (Int × Value)}
theorem dloop_item (hl : s.heap.IsList lr items) (hit : s.heap.IsListIter it lr idx) (hx : items[idx]? = some (.ref e)) (he : s.heap.get? e = some (tupObj [.int k tk, v] n)) (hd : s.heap.DictOf (PySem.intKind PySem.Challenge.rw_fe0177_01.prog w) d kvs) (hsz : kvs.length ≤ sizeLine) (n1 : e ≠ it) (n2 : d ≠ it)
    (next : ∀ h' tk', h'.IsListIter it lr (idx + 1) → h'.DictOf (PySem.intKind PySem.Challenge.rw_fe0177_01.prog w) d (stored kvs k v) → (∀ b o, b ≠ it → b ≠ d → s.heap.get? b = some o → h'.get? b = some o) →
      codeAny (MG w) A (.builtin "dict.update.loop" ⟨[.ref d, .ref it, rawInt (i + 1), .none], []⟩) R { s with heap := h', toks := tk' }) :
    codeAny (MG w) A (.builtin "dict.update.loop" ⟨[.ref d, .ref it, rawInt i, .none], []⟩) R s := by
  refine codeAny_builtin loop_entry ?_
  unfold Builtin.«dict.update.loop»
  refine wpAny_bind (wpAny_pyNext_list_item hit hl hx fun h1 hit1 k1 => ?_)
  have he1 : h1.get? e = some (tupObj [.int k tk, v] n) := k1.extBut _ _ n1 he
  refine wpAny_bind (wpAny_holding ?_)
  refine wpAny_bind (wpAny_tryCatch ?_)
  unfold Builtin.Dict.pairItems
  refine wpAny_bind (wpAny_typeOf (T := "tuple") ⟨_, he1, rfl⟩ ?_)
  rw [if_pos (by decide)]
  refine wpAny_bind (wpAny_seqItems he1 rfl (wpAny_pure ?_))
  have hd1 : h1.DictOf (PySem.intKind PySem.Challenge.rw_fe0177_01.prog w) d kvs := by
    obtain ⟨o, ho, r⟩ := Heap.dictOf_iff.mp hd
    exact Heap.dictOf_iff.mpr ⟨o, k1.extBut _ _ n2 ho, r⟩
  show wpAny _ _ (holding [.int k tk, v] (dictSet d (.int k tk) v)) _ _ _
  refine wpAny_holding (wpAny_dictSet_pairs (knd := PySem.intKind PySem.Challenge.rw_fe0177_01.prog w) (intKind_is _ _ k tk) hd1 (fun h2 hd2 k2 => ?_) hsz)
  refine wpAny_pure ⟨Code.quiet_builtin _ (by decide +kernel), ?_⟩
  exact next h2 _ (hit1.extBut k2.extBut (Ne.symm n2)) hd2 fun b o x y e => k2.extBut _ _ y (k1.extBut _ _ x e)
theorem dloop_end (hA : A.handled = none) (hl : s.heap.IsList lr items) (hit : s.heap.IsListIter it lr idx) (hx : items[idx]? = none)
    (next : ∀ h', (∀ b o, b ≠ it → s.heap.get? b = some o → h'.get? b = some o) → R (.ok (.ret .none)) { s with heap := h' }) :
    codeAny (MG w) A (.builtin "dict.update.loop" ⟨[.ref d, .ref it, rawInt i, .none], []⟩) R s := by
  refine codeAny_builtin loop_entry ?_
  unfold Builtin.«dict.update.loop»
  refine wpAny_bind (wpAny_pyNext_list_end hA hit hl hx fun h1 k1 => ?_)
  refine wpAny_bind (m := Builtin.Dict.addKeywords d []) (wpAny_pure ?_)
  exact wpAny_pure (next h1 fun b o n e => k1 b o n e)
end
theorem dict_pairs {w : World} {hb : Heap} (B : Base w hb) {A : Around} {E : Value → Shared → Prop} {s : Shared} {lr e1 e2 : Addr} {nl n1 n2 : Nat} {t0 t1 : Tok} {v u : Value} {Q : Value → Shared → Prop} (hA : A.handled = none) (X : Ext hb s.heap)
    (hl : s.heap.get? lr = some (lstObj [.ref e1, .ref e2] nl)) (h1 : s.heap.get? e1 = some (tupObj [.int 0 t0, v] n1)) (h2 : s.heap.get? e2 = some (tupObj [.int 1 t1, u] n2))
    (hQ : ∀ d h' tk t0 t1 n, Ext s.heap h' → s.heap.get? d = none → h'.get? d = some (dctObj t0 t1 v u n) → Q (.ref d) { s with heap := h', toks := tk }) : wpAny (MG w) A (call (.type "dict") [.ref lr]) Q E s := by
  refine callType_codes (Q₁ := fun obj s₁ => obj = .ref s.heap.objs.size ∧ s₁ = { s with heap := s.heap.push { cls := .type "dict", data := .dict #[] } }) PySem.F.kt_called_dict (PySem.F.kt_typeCall_dict_1 _) PySem.F.entry_dict_init (kt_code_dict_new _ ⟨rfl, rfl⟩) ?_
  rintro obj s₁ ⟨rfl, rfl⟩
  have hnew : (s.heap.push { cls := .type "dict", data := .dict #[] }).get? s.heap.objs.size = some { cls := .type "dict", data := .dict #[] } := Heap.get?_push_size _ rfl
  have hT0 : Shared.TypeIs { s with heap := s.heap.push { cls := .type "dict", data := .dict #[] } } (.ref s.heap.objs.size) "dict" := ⟨_, hnew, rfl⟩
  refine ⟨hT0, PySem.F.args_dict_init_2 _ _, ?_⟩
  unfold Builtin.«dict.__init__»
  refine wpAny_bind ?_
  unfold Builtin.Dict.selfAndRest
  refine wpAny_bind (wpAny_notOrdered_dict hT0 ?_)
  show wpAny _ _ (pure (s.heap.objs.size, [Value.ref lr])) _ _ _
  refine wpAny_pure ?_
  show wpAny _ _ (Builtin.Dict.updateFrom "dict.__init__" s.heap.objs.size (.ref lr) [] .none) _ _ _
  unfold Builtin.Dict.updateFrom
  have hl1 : (s.heap.push { cls := .type "dict", data := .dict #[] }).get? lr = some (lstObj [.ref e1, .ref e2] nl) := Heap.get?_push_of_some _ hl
  refine wpAny_bind (wpAny_typeOf (T := "list") ⟨_, hl1, rfl⟩ ?_)
  rw [if_pos (by decide)]
  refine wpAny_bind (keys_none hl1 hA fun h3 tk3 x3 => ?_)
  simp only [Option.isNone_none, if_true]
  refine wpAny_bind (wpAny_rule ?_)
  have hl3 : h3.IsList lr #[.ref e1, .ref e2] := ⟨_, x3 _ _ hl1, rfl, _, rfl⟩
  refine wpAny_bind (wpAny_pyIter_list hl3 ?_)
  refine wpAny_pure ⟨Code.quiet_builtin _ (by decide +kernel), ?_⟩
  have p1 : Ext s.heap (s.heap.push { cls := .type "dict", data := .dict #[] }) := fun _ _ e => Heap.get?_push_of_some _ e
  have xx : ∀ o, Ext s.heap (h3.push o) := fun o b ob e => Heap.get?_push_of_some _ (x3 _ _ (p1 _ _ e))
  have lt : ∀ {b o}, s.heap.get? b = some o → b ≠ h3.objs.size := fun e => Nat.ne_of_lt (Heap.lt_size (x3 _ _ (p1 _ _ e)))
  have dlt : s.heap.objs.size ≠ h3.objs.size := Nat.ne_of_lt (Heap.lt_size (x3 _ _ hnew))
  have hne : ∀ {b o}, s.heap.get? b = some o → b ≠ s.heap.objs.size := fun e => Nat.ne_of_lt (Heap.lt_size e)
  refine dloop_item (idx := 0) (kvs := []) (hl3.push _) ⟨_, Heap.get?_push_size _ rfl, rfl, rfl⟩ rfl (xx _ _ _ h1) (Heap.dictOf_iff.mpr ⟨_, Heap.get?_push_of_some _ (x3 _ _ hnew), dct_emp⟩) (by decide) (lt h1) dlt fun h4 t4 i4 d4 k4 => ?_
  have hl4 : h4.IsList lr #[.ref e1, .ref e2] := (hl3.push _).at fun o e => k4 _ _ (lt hl) (hne hl) e
  refine dloop_item (idx := 1) hl4 i4 rfl (k4 _ _ (lt h2) (hne h2) (xx _ _ _ h2)) d4 (by show 1 ≤ sizeLine; decide) (lt h2) dlt fun h5 t5 i5 d5 k5 => ?_
  have hl5 : h5.IsList lr #[.ref e1, .ref e2] := hl4.at fun o e => k5 _ _ (lt hl) (hne hl) e
  refine dloop_end (idx := 2) hA hl5 i5 rfl fun h6 k6 => ?_
  obtain ⟨o, ho, hd⟩ := Heap.dictOf_iff.mp d5
  obtain ⟨a, b, c, rfl⟩ := dct_of (show o.IsDictOf (PySem.intKind PySem.Challenge.rw_fe0177_01.prog w) [(0, v), (1, u)] from hd)
  exact ⟨rfl, hQ _ _ _ a b c (fun b o e => k6 _ _ (lt e) (k5 _ _ (lt e) (hne e) (k4 _ _ (lt e) (hne e) (xx _ _ _ e)))) (Heap.get?_none_of_le (Nat.le_refl _)) (k6 _ _ dlt ho)⟩
end Mine
end
theorem Mine.flush40 : True ∧ True := by
  w_top off
  try (fail_if_success walk1)
  exact ⟨trivial, trivial⟩
section
open PySem PySem.W PyProof.Rows PySem.Spec PySem.Calls PySem.W.X
set_option maxRecDepth 100000
set_option maxHeartbeats 2000000
namespace Mine
inductive Shape : Value → Tm → Tm → List (Tm × Tm) → Prop where
  | tup2 {a b x y : Tm} : Shape (.type "tuple") (.tup2 a b) (.tup2 x y) [(a, x), (b, y)]
  | tup3 {a b x y : Tm} : Shape (.type "tuple") (.tup3 a b) (.tup3 x y) [(a, x), (.int 0, .int 0), (b, y)]
  | lst {a b x y : Tm} : Shape (.type "list") (.lst a b) (.lst x y) [(a, x), (b, y)]
  | dct {a b x y : Tm} : Shape (.type "dict") (.dct a b) (.dct x y) [(.tup2 (.int 0) a, .tup2 (.int 0) x), (.tup2 (.int 1) b, .tup2 (.int 1) y)]
def kidsOf (xs : List (Tm × Tm)) : List Ev := xs.filterMap fun p => if isI p.1 = true then none else some (.child p.2)
def itEvs (u : Tm) (xs : List (Tm × Tm)) : List Ev := .result u :: .plain :: (kidsOf xs).reverse
abbrev itBinds (cv tv : Value) (d : Addr) : Str → Option Value := fun y => [(Str.ofString "ctor", cv), (Str.ofString "t", tv), (Str.ofString "s", .ref d)].reverse.lookup y
def ItB (w : World) (hb : Heap) (σ : Sb) (d : Addr) (ks : List Int) (n : Nat) (cv : Value) (o : Addr) (t u : Tm) (xs : List (Tm × Tm)) (gs : GenState) (Lc : Addr) : Prop :=
  ∀ (A' : Around) (outer : List Env) (T Av' : Addr → Prop), GCtx.Wf ⟨w, hb, A', outer, T⟩ → (∀ a, T a → Av' a) → (∀ a ∈ frs outer, Av' a) → ¬ Av' Lc →
    ∀ s1 : Shared, s1.heap.Ns Lc (itBinds cv (.ref o) d) → R (At hb s1.heap fun a => Av' a ∨ a = Lc) (.ref o) t → Sub (At hb s1.heap fun a => Av' a ∨ a = Lc) σ d ks → Have Av' s1.heap → OKs ⟨w, hb, A', outer, T⟩ s1.heap →
      gs.Goes (MG w) A' (RS ⟨w, hb, A', outer, T⟩ s1.heap Lc) (YS ⟨w, hb, A', outer, T⟩ (GS ⟨w, hb, A', outer, T⟩ n) (itEvs u xs) s1.heap Av' Lc) (itEvs u xs).length (.send .none) s1
def lpm (cv tv : Value) (d lr : Addr) (rest : Str → Option Value) : Str → Option Value := fun y =>
  if y = Str.ofString "ctor" then some cv else if y = Str.ofString "t" then some tv else if y = Str.ofString "s" then some (.ref d) else if y = Str.ofString "res" then some (.ref lr) else rest y
theorem lpm_0 {cv tv : Value} {d lr : Addr} : (fun y => if y = Str.ofString "res" then some (.ref lr) else itBinds cv tv d y) = lpm cv tv d lr fun _ => none := by
  funext y
  show _ = if _ then _ else _
  unfold itBinds
  by_cases h1 : y = Str.ofString "ctor"
  · subst h1; rfl
  by_cases h2 : y = Str.ofString "t"
  · subst h2; rfl
  by_cases h3 : y = Str.ofString "s"
  · subst h3; rfl
  by_cases h4 : y = Str.ofString "res"
  · subst h4; rfl
  · rw [if_neg h1, if_neg h2, if_neg h3, if_neg h4, if_neg h4]
    simp [List.lookup, beq_eq_false_iff_ne.mpr h1, beq_eq_false_iff_ne.mpr h2, beq_eq_false_iff_ne.mpr h3]
theorem lpm_t {cv tv tv' : Value} {d lr : Addr} {r : Str → Option Value} : (fun y => if y = Str.ofString "t" then some tv' else lpm cv tv d lr r y) = lpm cv tv' d lr r := by
  funext y
  unfold lpm
  by_cases h2 : y = Str.ofString "t"
  · subst h2; rfl
  · rw [if_neg h2, if_neg h2, if_neg h2]
def It0 (C : GCtx) (hI : Heap) (Av : Addr → Prop) (L : Addr) (σ : Sb) (d : Addr) (ks : List Int) (xs : List (Tm × Tm)) (lr : Addr) (cv : Value) (s1 s' : Shared) : Prop :=
  ∃ h tk D h₀ tv m, s' = { s1 with heap := h, toks := tk } ∧ SgW C hI s1.heap Av L h₀ D ∧ Fr C.hb L h (lpm cv tv d lr m) ∧ News C.hb L h ((lr, lstObj [] 0) :: D) ∧ (∀ p ∈ D, p.1 ≠ lr) ∧ Src (PD D Av) tv (xs.map (·.1)) ∧ Sub (PD D Av) σ d ks ∧ hI.get? lr = none ∧ ¬ Av lr
local macro_rules | `(tactic| k_mem) => `(tactic| first | exact List.Mem.head _ | assumption | exact Held.mem (by assumption) | (refine' List.Mem.tail _ ?_; k_mem))
local macro_rules | `(tactic| walk_at "call builtin:isinstance") => `(tactic| (refine wpAny_A0 (n := 0) (Fits.go (by assumption) (by omega)) ?_; first
  | (refine isi_tup_Var (Frag.In.keeps (by assumption) (Fr.keep (by assumption))) _ _ _ (News.get (by assumption) (by k_mem)) _ _ (fun t9 => ?_))
  | (refine isi_tup_Tup (Frag.In.keeps (by assumption) (Fr.keep (by assumption))) _ _ _ (News.get (by assumption) (by k_mem)) _ _ (fun t9 => ?_))
  | (refine isi_lst_Var (Frag.In.keeps (by assumption) (Fr.keep (by assumption))) _ _ _ (News.get (by assumption) (by k_mem)) _ _ (fun t9 => ?_))
  | (refine isi_lst_Tup (Frag.In.keeps (by assumption) (Fr.keep (by assumption))) _ _ _ (News.get (by assumption) (by k_mem)) _ _ (fun t9 => ?_))
  | (refine isi_lst_Lst (Frag.In.keeps (by assumption) (Fr.keep (by assumption))) _ _ _ (News.get (by assumption) (by k_mem)) _ _ (fun t9 => ?_))
  | (refine isi_dct_Var (Frag.In.keeps (by assumption) (Fr.keep (by assumption))) _ _ _ (News.get (by assumption) (by k_mem)) _ _ (fun t9 => ?_))
  | (refine isi_dct_Tup (Frag.In.keeps (by assumption) (Fr.keep (by assumption))) _ _ _ (News.get (by assumption) (by k_mem)) _ _ (fun t9 => ?_))
  | (refine isi_dct_Lst (Frag.In.keeps (by assumption) (Fr.keep (by assumption))) _ _ _ (News.get (by assumption) (by k_mem)) _ _ (fun t9 => ?_))
  | (refine isi_dct_Dct (Frag.In.keeps (by assumption) (Fr.keep (by assumption))) _ _ _ (News.get (by assumption) (by k_mem)) _ _ (fun t9 => ?_))
  | (refine isi_var_Var (Frag.In.keeps (by assumption) (Fr.keep (by assumption))) _ _ (News.get (by assumption) (by k_mem)) _ _ (fun t9 => ?_))
  | (refine isi_int_Var (Frag.In.keeps (by assumption) (Fr.keep (by assumption))) _ _ _ _ (fun t9 => ?_))
  | (refine isi_int_Tup (Frag.In.keeps (by assumption) (Fr.keep (by assumption))) _ _ _ _ (fun t9 => ?_))
  | (refine isi_int_Lst (Frag.In.keeps (by assumption) (Fr.keep (by assumption))) _ _ _ _ (fun t9 => ?_))
  | (refine isi_int_Dct (Frag.In.keeps (by assumption) (Fr.keep (by assumption))) _ _ _ _ (fun t9 => ?_))))
local macro_rules | `(tactic| walk_at "UnrEndW cons") => `(tactic| (refine unr_end1 (by assumption) (by assumption) (by assumption) (And.intro (.head _) trivial) ?_))

theorem items_call {w : World} {hb : Heap} (B : Base w hb) {A : Around} {s : Shared} {d : Addr} {t0 t1 : Tok} {v u : Value} {n : Nat} {Q E : Value → Shared → Prop} (ho : s.heap.get? d = some (dctObj t0 t1 v u n)) (hn : hb.get? d = none)
    (h : Q (.ref s.heap.objs.size) { s with heap := s.heap.push (viewObj d) }) : wpAny (MG w) A (call (.builtin "dict.items") [.ref d]) Q E s := by
  have hT : s.TypeIs (.ref d) "dict" := ⟨_, ho, rfl⟩
  have hd := not_mods B hn
  refine wpAny_call_entry PySem.F.slot_dict_items hT PySem.F.entry_dict_items ?_ (PySem.F.args_dict_items_1 _)
  unfold Builtin.«dict.items»
  refine wpAny_bind ?_
  unfold Builtin.Dict.noArgs
  refine wpAny_bind (wpAny_notOrdered_dict hT ?_)
  show wpAny _ _ (pure d) _ _ s
  refine wpAny_pure ?_
  show wpAny _ _ (Builtin.Dict.showsAll d >>= _) _ _ s
  unfold Builtin.Dict.showsAll
  rw [if_neg (by rw [hd]; exact Bool.false_ne_true)]
  refine wpAny_bind (wpAny_pure ?_)
  exact wpAny_bind (wpAny_newObj_type (wpAny_pure ⟨_, rfl, h⟩))
theorem over_for2 {A : Around} {t : PySem.Expr} {it : Value} {b o body : List Stmt} {env : Env} {K : Flow → Sem Fin} {H : Value → Sem Fin} {gd : Bool → Bool} {lv : List Value → List Value} {p : Pos} (hg : gd false = false) :
    A.over (.forLoop t it b o env) [forFrame K H gd lv env (.func body env) p] = A.deeper env := by
  unfold forFrame
  rw [hg]
  exact over_for ..
abbrev ItAv (Av : Addr → Prop) (L lr it : Addr) : Addr → Prop := fun a => Av a ∨ a ∈ L :: [lr, it]
/-- at a turn of the for -/
structure ItL (C : GCtx) (hI hS : Heap) (Av : Addr → Prop) (L lr it : Addr) (o1 o2 : Obj) (m : Str → Option Value) (h₀ h : Heap) (D : List (Addr × Obj)) : Prop where
  S : SgW C hI hS Av L h₀ D
  F : Fr C.hb L h m
  N : News C.hb L h ((lr, o1) :: (it, o2) :: D)
  off : ∀ p ∈ D, p.1 ∉ [lr, it]
theorem ItL.n {C : GCtx} {hI hS : Heap} {Av : Addr → Prop} {L lr it : Addr} {o1 o2 : Obj} {m : Str → Option Value} {h₀ h : Heap} {D : List (Addr × Obj)} (x : ItL C hI hS Av L lr it o1 o2 m h₀ h D) : News C.hb L h ([(lr, o1), (it, o2)] ++ D) := x.N
theorem ItL.at {C : GCtx} {hI hS : Heap} {Av : Addr → Prop} {L lr it : Addr} {o1 o2 : Obj} {m : Str → Option Value} {h₀ h : Heap} {D : List (Addr × Obj)} (x : ItL C hI hS Av L lr it o1 o2 m h₀ h D) {a : Addr} {o : Obj} (y : PD D Av a o) : At C.hb h (ItAv Av L lr it) a o :=
  SgW.at (mu := [(lr, o1), (it, o2)]) x.F x.N x.off y
theorem ItL.have {C : GCtx} {hI hS : Heap} {Av : Addr → Prop} {L lr it : Addr} {o1 o2 : Obj} {m : Str → Option Value} {h₀ h : Heap} {D : List (Addr × Obj)} (x : ItL C hI hS Av L lr it o1 o2 m h₀ h D) : Have (ItAv Av L lr it) h := x.S.have (mu := [(lr, o1), (it, o2)]) x.F x.N
/-- a step of the heap at which the iterator alone turns -/
theorem ItL.step {C : GCtx} {hI hS : Heap} {Av : Addr → Prop} {L lr it : Addr} {o1 o2 o3 : Obj} {m : Str → Option Value} {h₀ h h' : Heap} {D : List (Addr × Obj)} (x : ItL C hI hS Av L lr it o1 o2 m h₀ h D) (hne : lr ≠ it) (k : ∀ b o, b ≠ it → h.get? b = .some o → h'.get? b = .some o) (e : h'.get? it = .some o3) :
    ∃ D', ItL C hI hS Av L lr it o1 o3 m h₀ h' D' ∧ (∀ p ∈ D, p ∈ D') ∧ ∀ a o, At C.hb h' (ItAv Av L lr it) a o → PD D' Av a o := by
  have ND : News C.hb L h D := fun p hp => x.N p (.tail _ (.tail _ hp))
  have itb := (x.N (it, o2) (.tail _ (.head _))).2
  have lrb := (x.N (lr, o1) (.head _))
  have F' : Fr C.hb L h' m := ⟨Heap.Ns.at' x.F.ns fun o => k L o (Ne.symm itb.1), fun b o q => k b o (fun z => by rw [z] at q; exact nomatch itb.2.symm.trans q) (x.F.keep b o q), x.F.above⟩
  have sub : ∀ p ∈ D, p ∈ allX C.hb h' (L :: [lr, it]) := fun p hp => allX_mem.mpr ⟨(ND p hp).2.2, k _ _ (fun z => x.off p hp (z ▸ .tail _ (.head _))) (ND p hp).1, fun q => (List.mem_cons.mp q).elim (ND p hp).2.1 (x.off p hp)⟩
  refine ⟨allX C.hb h' (L :: [lr, it]), ⟨⟨x.S.W.mono sub, x.S.FF, x.S.kp, x.S.tt⟩, F', fun p hp => ?_, fun p hp q => (allX_mem.mp hp).2.2 (.tail _ q)⟩, sub, fun a o y => ⟨allX_mem.mpr ⟨y.2.1, y.1, fun q => y.2.2 (.inr q)⟩, fun z => y.2.2 (.inl z)⟩⟩
  rcases List.mem_cons.mp hp with rfl | hp
  · exact ⟨k _ _ hne lrb.1, lrb.2⟩
  · rcases List.mem_cons.mp hp with rfl | hp
    · exact ⟨e, itb⟩
    · exact News_all (L := L) (X := L :: [lr, it]) (.head _) p hp
def ItJ (C : GCtx) (hI : Heap) (Av : Addr → Prop) (L : Addr) (σ : Sb) (d : Addr) (ks : List Int) (cv : Value) (lr it : Addr) (done todo : List (Tm × Tm)) (n : Nat) (s0 s : Shared) : Prop :=
  ∃ h tk D h₀ tv m rs nl oi, s = { s0 with heap := h, toks := tk } ∧ n = (kidsOf todo).length + 2 ∧ ItL C hI s0.heap Av L lr it (lstObj rs nl) oi (lpm cv tv d lr m) h₀ h D ∧
    (∀ h' P', h'.get? it = some oi → (∀ a o, PD D Av a o → P' a o) → Feed h' P' it (todo.map (·.1))) ∧ RL (PD D Av) rs (done.map (·.2)) ∧ Sub (PD D Av) σ d ks
theorem SgW.wake {C : GCtx} {hI h h2 : Heap} {Av : Addr → Prop} {L : Addr} {D mu : List (Addr × Obj)} {m : Str → Option Value} {X : List Addr} (F : Fr C.hb L h m) (N : News C.hb L h (mu ++ D)) (hs : ∀ p ∈ mu, ¬ Av p.1 ∧ hI.get? p.1 = none) (nL : ¬ Av L) (k : Kp C X h h2) (hX : ∀ z ∈ X, z ≠ L ∧ z ∉ mu.map (·.1)) (kI : Kp C [L] hI h2) (ok : OKs C h2) (hv : Have Av hI) (hT : ∀ a, C.T a → Av a) (hF : ∀ a ∈ frs C.outer, Av a) :
    ∃ D' h₀', SgW C hI h2 Av L h₀' D' ∧ Fr C.hb L h2 m ∧ News C.hb L h2 (mu ++ D') ∧ (∀ p ∈ D', p.1 ∉ mu.map (·.1)) ∧ (∀ a o, At C.hb h2 (fun a => Av a ∨ a ∈ L :: mu.map (·.1)) a o → PD D' Av a o) :=
  seg_start kI ok (Heap.Ns.at' F.ns fun o e => (k L o e (fun t => nL (hT _ t)) fun m => (hX _ m).1 rfl).1 fun f => nL (hF _ f)) F.above nL hv hT hF fun p hp =>
    have q := N p (List.mem_append_left _ hp)
    have z := hs p hp
    ⟨(k p.1 p.2 q.1 (fun t => z.1 (hT _ t)) fun m => (hX _ m).2 (List.mem_map.mpr ⟨p, hp, rfl⟩)).1 fun f => z.1 (hF _ f), q.2.2, z.1, q.2.1, z.2⟩
theorem seg_loop {X : Type} {M : Model} {A : Around} {R : GenEnd} {Y : Protocol} {c : Code} {t : Sem Fin} {fs : List Frame} {J : List X → List X → Nat → Shared → Shared → Prop} {all : List X} (H : ∀ todo done nn s0 s, all = done ++ todo → J done todo nn s0 s → Seg M A R Y nn s0 c t fs s) {nn : Nat} {s0 s : Shared} (h : J [] all nn s0 s) : Seg M A R Y nn s0 c t fs s := H all [] nn s0 s rfl h
local macro_rules | `(tactic| walk_at "call builtin:isinstance") => `(tactic| (refine wpAny_A0 (n := 0) (Fits.go (by assumption) (by omega)) ?_; first
  | (refine isi_int_Gen (Frag.In.keeps (by assumption) (Fr.keep (by assumption))) _ _ _ _ (fun t9 => ?_))
  | (refine isi_gen_Gen (Frag.In.keeps (by assumption) (Fr.keep (by assumption))) _ _ (News.get (by assumption) (by k_mem)) _ _ (fun t9 => ?_))
  | (refine isi_tup_Dct (Frag.In.keeps (by assumption) (Fr.keep (by assumption))) _ _ _ (News.get (by assumption) (by k_mem)) _ _ (fun t9 => ?_))
  | (refine isi_lst_Dct (Frag.In.keeps (by assumption) (Fr.keep (by assumption))) _ _ _ (News.get (by assumption) (by k_mem)) _ _ (fun t9 => ?_))
  | (refine isi_dct_Dct (Frag.In.keeps (by assumption) (Fr.keep (by assumption))) _ _ _ (News.get (by assumption) (by k_mem)) _ _ (fun t9 => ?_))))
theorem int_of {P : Addr → Obj → Prop} {v : Value} {t : Tm} (h : isI t = true) (r : R P v t) : ∃ i tk, v = .int i tk := by
  cases r with
  | int i tk => exact ⟨i, tk, rfl⟩
  | var _ _ => cases h
  | tup2 _ _ _ => cases h
  | tup3 _ _ _ => cases h
  | lst _ _ _ => cases h
  | dct _ _ _ => cases h
theorem perm2 {hb h : Heap} {L : Addr} {p q : Addr × Obj} {D : List (Addr × Obj)} (N : News hb L h (p :: q :: D)) : News hb L h (q :: p :: D) := fun r hr => by
  rcases List.mem_cons.mp hr with e | hr
  · exact N r (e ▸ .tail _ (.head _))
  · rcases List.mem_cons.mp hr with e | hr
    · exact N r (e ▸ .head _)
    · exact N r (.tail _ (.tail _ hr))
theorem new1 {hb h h₀ : Heap} {L a : Addr} {o : Obj} {Av : Addr → Prop} {S : List Addr} {q : Addr × Obj} {D : List (Addr × Obj)} (W : WkF hb h₀ Av S L D) (N : News hb L h ((a, o) :: q :: D)) (l : q.1 < a ∧ AllLt a D) : PD ((a, o) :: D) Av a o :=
  W.newOff (h := h) (.head _) (fun p hp => perm2 N p (.tail _ hp)) fun p hp => Nat.ne_of_lt (tb_ltOf l.2 p hp)
theorem lpm_ry {cv tv a b : Value} {d lr : Addr} {m : Str → Option Value} : (fun z => if z = Str.ofString "r" then some a else if z = Str.ofString "y" then some b else lpm cv tv d lr m z) = lpm cv tv d lr fun z => if z = Str.ofString "r" then some a else if z = Str.ofString "y" then some b else m z := by
  funext z
  unfold lpm
  by_cases h1 : z = Str.ofString "ctor"
  · subst h1; rfl
  by_cases h2 : z = Str.ofString "t"
  · subst h2; rfl
  by_cases h3 : z = Str.ofString "s"
  · subst h3; rfl
  by_cases h4 : z = Str.ofString "res"
  · subst h4; rfl
  simp only [if_neg h1, if_neg h2, if_neg h3, if_neg h4]
theorem lpm_rry {cv tv a b c : Value} {d lr : Addr} {m : Str → Option Value} : (fun z => if z = Str.ofString "r" then some c else if z = Str.ofString "r" then some a else if z = Str.ofString "y" then some b else lpm cv tv d lr m z) = lpm cv tv d lr fun z => if z = Str.ofString "r" then some c else if z = Str.ofString "y" then some b else m z := by
  rw [← lpm_ry]
  funext z
  by_cases h1 : z = Str.ofString "r"
  · simp only [if_pos h1]
  · simp only [if_neg h1]
theorem kidsOf_app (xs ys : List (Tm × Tm)) : kidsOf (xs ++ ys) = kidsOf xs ++ kidsOf ys := by simp [kidsOf]
theorem evs_at {u : Tm} {xs done rest : List (Tm × Tm)} {x : Tm × Tm} (hd : xs = done ++ x :: rest) (hi : isI x.1 = false) : (itEvs u xs)[(kidsOf rest).length + 2]? = some (.child x.2) := by
  have e : kidsOf (x :: rest) = .child x.2 :: kidsOf rest := by simp [kidsOf, hi]
  subst hd
  unfold itEvs
  rw [kidsOf_app, e]
  simp
theorem RL.len {P : Addr → Obj → Prop} {vs : List Value} {ts : List Tm} (r : RL P vs ts) : vs.length = ts.length := by
  induction r with
  | nil => rfl
  | cons _ _ ih => simp [ih]
theorem Shape.len {cv : Value} {t u : Tm} {xs : List (Tm × Tm)} (h : Shape cv t u xs) : xs.length ≤ 3 := by
  cases h <;> simp
theorem it_append {w : World} {C : GCtx} {A : Around} {E Q : Value → Shared → Prop} {s : Shared} {L lr it : Addr} {rs : List Value} {nl : Nat} {oi : Obj} {m : Str → Option Value} {D : List (Addr × Obj)} {v : Value} (hne : lr ≠ it) (F : Fr C.hb L s.heap m) (N : News C.hb L s.heap ((lr, lstObj rs nl) :: (it, oi) :: D)) (off : ∀ p ∈ D, p.1 ∉ [lr, it]) (hlen : rs.length ≤ 3)
    (hQ : ∀ h' n', Fr C.hb L h' m → News C.hb L h' ((lr, lstObj (rs ++ [v]) n') :: (it, oi) :: D) → Q .none { s with heap := h' }) : wpAny (MG w) A (call (.builtin "list.append") [.ref lr, v]) Q E s := by
  have q := N _ (.head _)
  refine wpAny_list_append_plain (items := rs.toArray) ⟨_, q.1⟩ (fun h' p k => ?_) (by simp only [List.size_toArray]; exact Nat.le_trans hlen (by decide))
  obtain ⟨n', e⟩ := p
  have e' : h'.get? lr = some (lstObj (rs ++ [v]) n') := by rw [e, List.push_toArray]
  have kk : ∀ b o, b ≠ lr → s.heap.get? b = some o → h'.get? b = some o := fun b o n e => k.extBut b o n e
  refine hQ h' n' ⟨Heap.Ns.at' F.ns fun o => kk L o (Ne.symm q.2.1), fun b o z => kk b o (fun e => by rw [e] at z; exact nomatch q.2.2.symm.trans z) (F.keep b o z), F.above⟩ fun p hp => ?_
  rcases List.mem_cons.mp hp with rfl | hp
  · exact ⟨e', q.2⟩
  · rcases List.mem_cons.mp hp with rfl | hp
    · have z := N _ (.tail _ (.head _))
      exact ⟨kk _ _ (Ne.symm hne) z.1, z.2⟩
    · have z := N _ (.tail _ (.tail _ hp))
      exact ⟨kk _ _ (fun e => off p hp (e ▸ .head _)) z.1, z.2⟩
theorem it_call {w : World} {hb : Heap} (B : Base w hb) {σ : Sb} {d : Addr} {ks : List Int} {n : Nat} {cv : Value} {t u : Tm} {xs : List (Tm × Tm)} (sh : Shape cv t u xs) (kids : ∀ p ∈ xs, ReifyC w hb σ d ks n p.1 p.2)
    {A : Around} {s : Shared} {o : Addr} : ∀ (fit : Fits A 5) (X : Ext hb s.heap) (Q E : Value → Shared → Prop),
    (∀ ga gs nm qn Lc h' tk, Ext s.heap h' → s.heap.get? Lc = none → s.heap.get? ga = none → h'.Ns Lc (itBinds cv (.ref o) d) → h'.get? ga = some (genObj s.gens.size nm qn) → gs.bare = true → ItB w hb σ d ks n cv o t u xs gs Lc → Q (.ref ga) { s with heap := h', toks := tk, gens := s.gens.push gs }) →
    wpAny (model PySem.Challenge.rw_fe0177_01.prog w) A (call (.ref 227) [cv, .ref o, .ref d]) Q E s := by
  have KX := B.kx
  revert KX
  k_fill
  intro KX fit X Q E hQ
  obtain ⟨mean, mg, mb, T⟩ := B.top
  refine wpAny_call ?_
  k_dflt (refine' call_gen (binds := [(Str.ofString "ctor", cv), (Str.ofString "t", .ref o), (Str.ofString "s", .ref d)]) B X ?k6 ?k7 fit.room ?k9 ?kB ?c2 ?c3 ?c4 ?c5 ?_; (case k6 => k_is); (case k7 => k_is); (case k9 => exact BindsTo.of_eq rfl); (case c5 => decide); (case kB => exact locs rfl); (case c2 => exact rfl); (case c3 => exact rfl); (case c4 => exact rfl); k_whole)
  intro Lc ga h8 t8 nm qn x8 ns8 nL8 bL8 lt8 g8 gn8
  dsimp only
  have bs : hb.objs.size ≤ Lc := Nat.le_trans (B.size X) bL8
  refine hQ ga _ nm qn Lc h8 t8 x8 nL8 gn8 ns8 g8 rfl ?_
  clear hQ
  intro A' outer T' Av' wf hT hF nAvL s1 ns1 hr1 hs1 hv oks
  refine ⟨rfl, seg_func ?_⟩
  have fit' : Fits A' 80 := wf.fits
  have fr' : A'.frames = some outer := wf.frames
  obtain ⟨D6, h6, S6, F6, N6, o6, pd6, al6⟩ := seg_start' (C := ⟨w, hb, A', outer, T'⟩) (mu := []) (Kp.refl _ [Lc] s1.heap) oks ns1 bs nAvL hv hT hF (fun p hp => nomatch hp)
  have pd6' : ∀ a o, At hb s1.heap (fun a => Av' a ∨ a = Lc) a o → PD D6 Av' a o := fun a o y => pd6 a o ⟨y.1, y.2.1, fun z => y.2.2 (z.imp id fun q => List.mem_singleton.mp q)⟩
  have hr6 := hr1.mono pd6'
  have hs6 := hs1.mono pd6'
  replace N6 : News hb Lc s1.heap D6 := N6
  clear pd6 pd6' o6 ns8 g8 gn8 x8
  refine seg_execs_cons (sg_stmt ?_)
  rw [over_func]
  k_steps
  rename_i lr _ l5 h5 F5 N5
  replace F5 : Fr hb Lc h5 (lpm cv (.ref o) d lr fun _ => none) := by have := F5; rw [lpm_0] at this; exact this
  replace N5 : News hb Lc h5 ((lr, lstObj [] 0) :: D6) := N5
  have nlr0 : s1.heap.get? lr = none := by
    cases q : s1.heap.get? lr with
    | none => rfl
    | some ol => exact absurd (l5 _ (al6 lr ol q (N5 _ (.head _)).2.2 fun m => (N5 _ (.head _)).2.1 (List.mem_singleton.mp m))) (Nat.lt_irrefl _)
  have nlr : s1.heap.get? lr = none ∧ ¬ Av' lr := ⟨nlr0, fun z => by obtain ⟨_, e⟩ := hv _ z; rw [nlr0] at e; cases e⟩
  refine seg_execs_cons (sg_stmt (wpAny_mono (E := fun _ _ => False) (Q := fun f s' => f = .next ∧ It0 ⟨w, hb, A', outer, T'⟩ s1.heap Av' Lc σ d ks xs lr cv s1 s') ?w (fun f s' hf => ?_) fun _ _ e => e.elim))
  case w =>
    rw [over_func]
    cases sh with
    | dct =>
      cases hr6 with
      | dct ho ra rb =>
      have ho' := ho.1
      k_steps
      refine getMethod_builtin (T := "dict") ⟨_, (N5 _ (.tail _ ho')).1, rfl⟩ PySem.F.plainAttrs_dict PySem.F.slot_dict_items PySem.F.type_dict_items (fun a e => by cases e; exact ⟨_, (N5 _ (.tail _ ho')).1, rfl⟩) ?_
      k_steps
      refine items_call B (N5 _ (.tail _ ho')).1 (N5 _ (.tail _ ho')).2.2 ?_
      have nvw : ¬ Av' h5.objs.size := fun z => by
        obtain ⟨oz, e⟩ := hv _ z
        refine absurd (Heap.lt_size (N5 _ (.tail _ (al6 _ oz e ?_ fun m => ?_))).1) (Nat.lt_irrefl _)
        · show hb.get? _ = none
          cases q : hb.get? h5.objs.size with
          | none => rfl
          | some o2 => exact absurd (Heap.lt_size (F5.keep _ _ q)) (Nat.lt_irrefl _)
        · have := F5.ns.lt
          rw [List.mem_singleton.mp m] at this
          exact absurd this (Nat.lt_irrefl _)
      have nel : h5.objs.size ≠ lr := Nat.ne_of_gt (Heap.lt_size (N5 _ (.head _)).1)
      have F4 := F5.push (viewObj o)
      have N4 := News.push F5 N5 (viewObj o)
      dsimp only at F4 N4 ⊢
      clear F5 N5
      k_steps
      rename_i _ h4 F4 N4
      exact ⟨h4, _, (h5.objs.size, viewObj o) :: D6, h6, .ref h5.objs.size, _, rfl, ⟨S6.W.cons, S6.FF, S6.kp, S6.tt⟩, (by have := F4; rw [lpm_t] at this; exact this), (fun p hp => N4 p (by
        rcases List.mem_cons.mp hp with e | hp
        · exact .tail _ (e ▸ .head _)
        · rcases List.mem_cons.mp hp with e | hp
          · exact e ▸ .head _
          · exact .tail _ (.tail _ hp))), (fun p hp => by
        rcases List.mem_cons.mp hp with e | hp
        · rw [e]; exact nel
        · exact Nat.ne_of_lt (l5 p hp)), .dct ⟨.head _, nvw⟩ (PD.sub (fun _ => .tail _) ho) (ra.mono fun _ _ => PD.sub fun _ => .tail _) (rb.mono fun _ _ => PD.sub fun _ => .tail _), hs6.mono (fun _ _ => PD.sub fun _ => .tail _), nlr⟩
    | lst =>
      cases hr6 with
      | lst ho ra rb =>
      have ho' := ho.1
      k_steps
      exact ⟨h5, _, D6, h6, .ref o, _, rfl, S6, F5, N5, fun p hp => Nat.ne_of_lt (l5 p hp), .lst ho (.cons ra (.cons rb .nil)), hs6, nlr⟩
    | tup2 =>
      cases hr6 with
      | tup2 ho ra rb =>
      have ho' := ho.1
      k_steps
      exact ⟨h5, _, D6, h6, .ref o, _, rfl, S6, F5, N5, fun p hp => Nat.ne_of_lt (l5 p hp), .tup ho (.cons ra (.cons rb .nil)), hs6, nlr⟩
    | tup3 =>
      cases hr6 with
      | tup3 ho ra rb =>
      have ho' := ho.1
      k_steps
      exact ⟨h5, _, D6, h6, .ref o, _, rfl, S6, F5, N5, fun p hp => Nat.ne_of_lt (l5 p hp), .tup ho (.cons ra (.cons (.int 0 _) (.cons rb .nil))), hs6, nlr⟩
  obtain ⟨rfl, hJ⟩ := hf
  obtain ⟨h4, t4, D4, h₀, tv, m4, rfl, S4, F4, N4, l4, src, hs4, nlr4⟩ := hJ
  clear F5 N5 N6 S6 hr6 hs6 al6 l5 nlr nlr0 hr1 hs1 ns1
  dsimp only
  refine seg_execs_cons (sg_For ?_)
  rw [over_func]
  k_steps
  refine src_iter B (Av := fun a => Av' a ∨ a ∈ Lc :: [lr]) F4.keep (S4.have (mu := [(lr, lstObj [] 0)]) F4 N4) (src.mono fun a o y => SgW.at (C := ⟨w, hb, A', outer, T'⟩) (mu := [(lr, lstObj [] 0)]) F4 N4 (fun p hp q => l4 p hp (List.mem_singleton.mp q)) y) fun it h3 o3 x3 n3 e3 f3 => ?_
  intro p
  have nit : s1.heap.get? it = none := S4.new (mu := [(lr, lstObj [] 0)]) F4 N4 hT n3
  have navit : ¬ Av' it := fun z => by obtain ⟨_, e⟩ := hv _ z; rw [nit] at e; cases e
  have hne : lr ≠ it := fun e => by
    have q := (N4 _ (.head _)).1
    rw [e] at q
    exact nomatch q.symm.trans n3
  have nb : hb.get? it = none := by
    cases q : hb.get? it with
    | none => rfl
    | some o => exact nomatch n3.symm.trans (F4.keep _ _ q)
  have itL : it ≠ Lc := fun e => by
    obtain ⟨ol, _, _, q, _⟩ := F4.ns
    rw [← e] at q
    exact nomatch n3.symm.trans q
  have hJ : ItJ ⟨w, hb, A', outer, T'⟩ s1.heap Av' Lc σ d ks cv lr it [] xs (itEvs u xs).length s1 { s1 with heap := h3, toks := t4 } := by
    have ND : News hb Lc h4 D4 := fun p hp => N4 p (.tail _ hp)
    have sub : ∀ p ∈ D4, p ∈ allX hb h3 (Lc :: [lr, it]) := fun p hp => allX_mem.mpr ⟨(ND p hp).2.2, x3 _ _ (ND p hp).1, fun q => (List.mem_cons.mp q).elim (ND p hp).2.1 fun q => (List.mem_cons.mp q).elim (l4 p hp) fun q => by
      have z := (ND p hp).1
      rw [List.mem_singleton.mp q] at z
      exact nomatch n3.symm.trans z⟩
    refine ⟨h3, t4, allX hb h3 (Lc :: [lr, it]), h₀, tv, m4, [], 0, o3, rfl, by simp [itEvs], ⟨⟨S4.W.mono sub, S4.FF, S4.kp, S4.tt⟩, Fr_ext F4 x3, fun p hp => ?_, fun p hp q => (allX_mem.mp hp).2.2 (.tail _ q)⟩, fun h' P' e k => f3.mono (fun a o y => ?_) (fun o q => by rw [e3] at q; cases q; exact e), .nil, hs4.mono fun _ _ => PD.sub sub⟩
    · rcases List.mem_cons.mp hp with rfl | hp
      · exact ⟨x3 _ _ (N4 _ (.head _)).1, (N4 _ (.head _)).2⟩
      · rcases List.mem_cons.mp hp with rfl | hp
        · exact ⟨e3, itL, nb⟩
        · exact News_all (L := Lc) (X := Lc :: [lr, it]) (.head _) p hp
    · have z : ∀ q : a ∈ Lc :: [lr, it], a ∈ [Lc, lr] ∨ a = it := fun q => by simpa [or_assoc] using q
      exact k a o ⟨allX_mem.mpr ⟨y.2.1, y.1, fun q => y.2.2 ((z q).imp .inr id)⟩, fun q => y.2.2 (.inl (.inl q))⟩
  refine seg_loop (J := ItJ ⟨w, hb, A', outer, T'⟩ s1.heap Av' Lc σ d ks cv lr it) ?_ hJ
  clear hJ f3 e3 n3 x3 src hs4 S4 F4 N4 l4
  intro todo
  induction todo with
  | nil =>
    intro done nn s0 s hd hJ
    obtain ⟨h, tk, D, h₀, tv, m, rs, nl, oi, rfl, rfl, x0, fd, rl, hs⟩ := hJ
    refine sg_forTurn ?_
    rw [over_for2 rfl]
    refine feed_end B (Av := ItAv Av' Lc lr it) (Fits.handled (Fits.go (m := 1) fit' (by omega))) (.inr (.tail _ (.tail _ (.head _)))) (fd h _ (x0.N _ (.tail _ (.head _))).1 fun a o y => x0.at y) fun h2 k2 => ?_
    dsimp only
    refine sg_forEnd ?_
    have F2 : Fr hb Lc h2 (lpm cv tv d lr m) := ⟨Heap.Ns.at' x0.F.ns fun o => k2 Lc o (Ne.symm itL), fun b o q => k2 b o (fun z => by rw [z] at q; exact nomatch nb.symm.trans q) (x0.F.keep b o q), x0.F.above⟩
    have N2 : News hb Lc h2 ((lr, lstObj rs nl) :: D) := fun p hp => by
      rcases List.mem_cons.mp hp with rfl | hp
      · have q := x0.N _ (.head _)
        exact ⟨k2 _ _ hne q.1, q.2⟩
      · have q := x0.N _ (.tail _ (.tail _ hp))
        exact ⟨k2 _ _ (fun z => x0.off p hp (z ▸ .tail _ (.head _))) q.1, q.2⟩
    have o2 : ∀ p ∈ D, p.1 ∉ [lr] := fun p hp q => x0.off p hp (by rw [List.mem_singleton.mp q]; exact .head _)
    have S2 := x0.S
    clear x0 fd
    dsimp only
    refine seg_execs_cons (sg_Expr_Yield (n := 1) rfl rfl rfl ?_ (YS.mono 1 _))
    rw [over_func]
    k_steps
    refine ys_plain (mu := [(lr, lstObj rs nl)]) S2 F2 N2 hT rfl rfl ⟨rfl, rfl⟩ fun s2 kI2 oks2 k3 => ?_
    refine wpAny_dropValue ?_
    obtain ⟨D5, h5, S5, F5, N5, o5, pd5⟩ := SgW.wake (C := ⟨w, hb, A', outer, T'⟩) (mu := [(lr, lstObj rs nl)]) (X := []) F2 N2 (fun p hp => by rw [List.mem_singleton.mp hp]; exact ⟨nlr4.2, nlr4.1⟩) nAvL k3 (fun _ h => nomatch h) kI2 oks2 hv hT hF
    have rl5 : RL (PD D5 Av') rs (done.map (·.2)) := rl.mono fun a o y => pd5 a o (At.kp k3 (fun a t => .inl (hT a t)) (fun a t => .inl (hF a t)) (fun h => nomatch h) (SgW.at (mu := [(lr, lstObj rs nl)]) F2 N2 o2 y))
    clear F2 N2 rl hs S2
    dsimp only
    refine seg_execs_cons (sg_Expr_Yield (n := 0) rfl rfl rfl ?_ (YS.mono 0 _))
    rw [over_func]
    simp only [List.append_nil] at hd
    subst hd
    cases sh with
    | tup2 =>
      cases rl5 with
      | cons r1 rl5 =>
      cases rl5 with
      | cons r2 rl5 =>
      cases rl5
      replace N5 : News hb Lc s2.heap ((lr, listOf #[_, _] nl) :: D5) := N5
      k_steps
      rename_i D9 h9 F9 N9 l9
      have P9 := new1 S5.W N9 l9
      refine ys_result (mu := [(lr, lstObj _ nl)]) (D := _ :: D5) ⟨S5.W.cons, S5.FF, S5.kp, S5.tt⟩ F9 (perm2 N9) hT rfl (.tup2 P9 (r1.mono fun _ _ => PD.sub fun _ => .tail _) (r2.mono fun _ _ => PD.sub fun _ => .tail _)) rfl ⟨rfl, rfl⟩ fun s4 kI4 oks4 k4 => ?_
      refine wpAny_dropValue ?_
      exact seg_last kI4 oks4
    | tup3 =>
      cases rl5 with
      | cons r1 rl5 =>
      cases rl5 with
      | cons r0 rl5 =>
      cases rl5 with
      | cons r2 rl5 =>
      cases rl5
      cases r0
      replace N5 : News hb Lc s2.heap ((lr, listOf #[_, .int 0 _, _] nl) :: D5) := N5
      k_steps
      rename_i D9 h9 F9 N9 l9
      have P9 := new1 S5.W N9 l9
      refine ys_result (mu := [(lr, lstObj _ nl)]) (D := _ :: D5) ⟨S5.W.cons, S5.FF, S5.kp, S5.tt⟩ F9 (perm2 N9) hT rfl (.tup3 P9 (r1.mono fun _ _ => PD.sub fun _ => .tail _) (r2.mono fun _ _ => PD.sub fun _ => .tail _)) rfl ⟨rfl, rfl⟩ fun s4 kI4 oks4 k4 => ?_
      refine wpAny_dropValue ?_
      exact seg_last kI4 oks4
    | lst =>
      cases rl5 with
      | cons r1 rl5 =>
      cases rl5 with
      | cons r2 rl5 =>
      cases rl5
      replace N5 : News hb Lc s2.heap ((lr, listOf #[_, _] nl) :: D5) := N5
      k_steps
      rename_i D9 h9 F9 N9 l9
      have P9 := new1 S5.W N9 l9
      refine ys_result (mu := [(lr, lstObj _ nl)]) (D := _ :: D5) ⟨S5.W.cons, S5.FF, S5.kp, S5.tt⟩ F9 (perm2 N9) hT rfl (.lst P9 (r1.mono fun _ _ => PD.sub fun _ => .tail _) (r2.mono fun _ _ => PD.sub fun _ => .tail _)) rfl ⟨rfl, rfl⟩ fun s4 kI4 oks4 k4 => ?_
      refine wpAny_dropValue ?_
      exact seg_last kI4 oks4
    | dct =>
      cases rl5 with
      | cons r1 rl5 =>
      cases rl5 with
      | cons r2 rl5 =>
      cases rl5
      cases r1 with
      | tup2 p1 i1 r1 =>
      cases i1
      cases r2 with
      | tup2 p2 i2 r2 =>
      cases i2
      replace N5 : News hb Lc s2.heap ((lr, listOf #[_, _] nl) :: D5) := N5
      have p1' := p1.1
      have p2' := p2.1
      k_steps
      refine dict_pairs B (Fits.handled (Fits.go (m := 1) fit' (by omega))) F5.keep (N5 _ (.head _)).1 (N5 _ (.tail _ p1')).1 (N5 _ (.tail _ p2')).1 fun D9 h9 tk9 t0 t1 n9 x9 nn9 e9 => ?_
      have F9 := Fr_ext F5 x9
      have N9 : News hb Lc h9 ((lr, listOf #[_, _] nl) :: (D9, dctObj t0 t1 _ _ n9) :: D5) := fun p hp => by
        rcases List.mem_cons.mp hp with rfl | hp
        · have q := N5 _ (.head _)
          exact ⟨x9 _ _ q.1, q.2⟩
        · rcases List.mem_cons.mp hp with rfl | hp
          · refine ⟨e9, fun z => ?_, ?_⟩
            · obtain ⟨ol, _, _, q, _⟩ := F5.ns
              have z' : D9 = Lc := z
              rw [← z'] at q
              exact nomatch nn9.symm.trans q
            · cases q : hb.get? D9 with
              | none => rfl
              | some o => exact nomatch nn9.symm.trans (F5.keep _ _ q)
          · have q := N5 _ (.tail _ hp)
            exact ⟨x9 _ _ q.1, q.2⟩
      have P9 : PD ((D9, dctObj t0 t1 _ _ n9) :: D5) Av' D9 (dctObj t0 t1 _ _ n9) := S5.W.newOff (h := h9) (.head _) (fun p hp => N9 p (.tail _ hp)) fun p hp z => by
        have q := (N5 _ (.tail _ hp)).1
        rw [z] at q
        exact nomatch nn9.symm.trans q
      refine ys_result (mu := [(lr, listOf #[_, _] nl)]) (D := _ :: D5) ⟨S5.W.cons, S5.FF, S5.kp, S5.tt⟩ F9 N9 hT rfl (.dct P9 (r1.mono fun _ _ => PD.sub fun _ => .tail _) (r2.mono fun _ _ => PD.sub fun _ => .tail _)) rfl ⟨rfl, rfl⟩ fun s4 kI4 oks4 k4 => ?_
      refine wpAny_dropValue ?_
      exact seg_last kI4 oks4
  | cons x rest ih =>
    intro done nn s0 s hd hJ
    obtain ⟨h, tk, D, h₀, tv, m, rs, nl, oi, rfl, rfl, x0, fd, rl, hs⟩ := hJ
    have kid : ReifyC w hb σ d ks n x.1 x.2 := kids x (by rw [hd]; exact List.mem_append_right _ (.head _))
    refine sg_forTurn ?_
    rw [over_for2 rfl]
    refine feed_next B (Av := ItAv Av' Lc lr it) x0.F.keep x0.have (.inr (.tail _ (.tail _ (.head _)))) (fd h _ (x0.N _ (.tail _ (.head _))).1 fun a o y => x0.at y) fun v h2 o2 k2 e2 f2 r2 => ?_
    obtain ⟨D2, x2, sub2, pd2⟩ := x0.step hne k2 e2
    have rv := r2.mono pd2
    have hlen : rs.length ≤ 3 := by
      have l1 := rl.len
      have l2 := sh.len
      rw [hd] at l2
      simp only [List.length_append, List.length_cons, List.length_map] at l1 l2
      omega
    have fd2 : ∀ h' P', h'.get? it = some o2 → (∀ a o, PD D2 Av' a o → P' a o) → Feed h' P' it (rest.map (·.1)) := fun h' P' e k => f2.mono (fun a o y => k a o (pd2 a o y)) fun o q => by rw [e2] at q; cases q; exact e
    have hs2 := hs.mono fun _ _ => PD.sub sub2
    have rl2 := rl.mono fun _ _ => PD.sub sub2
    have F2 := x2.F
    have N2 := x2.N
    have off2 := x2.off
    have S2 := x2.S
    clear x0 fd rl hs f2 r2 x2 k2
    dsimp only
    k_steps
    refine seg_execs_cons (sg_stmt ?_)
    rw [over_for2 rfl]
    k_steps
    rename_i h3 F3 N3
    refine ReifyC.useF kid [(lr, lstObj rs nl), (it, o2)] F3 N3 off2 S2.W (Fits.go fit' (by omega)) S2.FF rv hs2 (fun h4 t4 D4 i4 r4 F4 N4 o4 s4 W4 => ?_) fun v4 ga4 gs4 Lc4 h4 t4 D4 i4 n4 g4 b4 gf4 F4 N4 o4 s4 W4 al4 => ?_
    · have ek : kidsOf (x :: rest) = kidsOf rest := by simp [kidsOf, i4]
      replace N4 : News hb Lc h4 ((lr, lstObj rs nl) :: (it, o2) :: D4) := N4
      obtain ⟨i, tki, rfl⟩ := int_of i4 rv
      clear F3 N3
      k_steps
      refine seg_execs_cons (sg_If ?_)
      rw [over_for2 rfl]
      k_steps
      refine seg_execs_nil ?_
      dsimp only
      refine seg_execs_cons (sg_stmt ?_)
      rw [over_for2 rfl]
      k_steps
      rename_i h6 F6 N6 _
      refine it_append (C := ⟨w, hb, A', outer, T'⟩) hne F6 N6 o4 hlen fun h7 n7 F7 N7 => ?_
      dsimp only
      refine seg_again rfl (ih (done ++ [x]) _ _ _ (by simp [hd]) ⟨h7, _, D4, h₀, tv, _, _, n7, o2, rfl, by rw [ek], ⟨⟨W4, S2.FF, S2.kp, S2.tt⟩, (by have := F7; rw [lpm_ry] at this; exact this), N7, o4⟩, fun h' P' e k => fd2 h' P' e fun a o y => k a o (PD.sub s4 y), ?_, hs2.mono fun _ _ => PD.sub s4⟩)
      rw [List.map_append]
      exact (rl2.mono fun _ _ => PD.sub s4).snoc r4
    · have ek : kidsOf (x :: rest) = .child x.2 :: kidsOf rest := by simp [kidsOf, i4]
      replace N4 : News hb Lc h4 ((lr, lstObj rs nl) :: (it, o2) :: D4) := N4
      have nI : s1.heap.get? Lc4 = none := SgW.new (mu := [(lr, lstObj rs nl), (it, o2)]) S2 F3 N3 hT n4
      have x4 : ∀ z ∈ [Lc4], z ≠ Lc ∧ z ∉ [lr, it] := fun z hz => by
        rw [List.mem_singleton.mp hz]
        refine ⟨fun e => ?_, fun hz => ?_⟩
        · obtain ⟨ol, _, _, q, _⟩ := F3.ns
          rw [← e] at q
          exact nomatch n4.symm.trans q
        · rcases List.mem_cons.mp hz with e | hz
          · have q : h3.get? lr = _ := (N3 _ (.head _)).1
            rw [← e] at q
            exact nomatch n4.symm.trans q
          · have q : h3.get? it = _ := (N3 _ (.tail _ (.head _))).1
            rw [← List.mem_singleton.mp hz] at q
            exact nomatch n4.symm.trans q
      have d2 : ∀ a o, PD D2 Av' a o → a ∉ [Lc4] := fun a o y q => by
        have z := (N3 _ (.tail _ (.tail _ y.1))).1
        rw [List.mem_singleton.mp q] at z
        exact nomatch n4.symm.trans z
      cases g4 with
      | mk gx gd =>
      have gx' := gx.1
      have kA0 : ∀ h6 m6, Fr hb Lc h6 m6 → News hb Lc h6 ((lr, lstObj rs nl) :: (it, o2) :: D4) → KpA (fun a => Av' a ∨ a ∈ Lc :: [lr, it]) h4 h6 := fun _ _ F N => kpA_walk (mu := [(lr, lstObj rs nl), (it, o2)]) F4 F N al4 fun _ h => h
      clear F3 N3
      k_steps
      refine seg_execs_cons (sg_If ?_)
      rw [over_for2 rfl]
      k_steps
      rw [ek]
      show Seg _ _ _ _ ((kidsOf rest).length + 2 + 1) _ _ _ _ _
      refine seg_execs_cons (sg_Assign_Yield rfl rfl rfl ?_ (YS.mono _ _) ?hsw)
      case hsw => rfl
      rw [over_for2 rfl]
      k_steps
      rename_i h6 F6 N6 _
      have S4 : SgW ⟨w, hb, A', outer, T'⟩ s1.heap s0.heap Av' Lc h₀ D4 := ⟨W4, S2.FF, S2.kp, S2.tt⟩
      refine ys_child (C := ⟨w, hb, A', outer, T'⟩) (mu := [(lr, lstObj rs nl), (it, o2)]) wf S4 F6 N6 hT hF (evs_at hd i4) gf4 (kA0 _ _ F6 N6) b4 nI rfl ⟨rfl, rfl⟩ fun r s2 k2 oks2 r2 => ?_
      dsimp only
      obtain ⟨D5, h5, S5, F5, N5, o5, pd5⟩ := SgW.wake (C := ⟨w, hb, A', outer, T'⟩) (mu := [(lr, lstObj rs nl), (it, o2)]) (X := [Lc4]) F6 N6 (fun p hp => by
        rcases List.mem_cons.mp hp with rfl | hp
        · exact ⟨nlr4.2, nlr4.1⟩
        · rw [List.mem_singleton.mp hp]; exact ⟨navit, nit⟩) nAvL k2 x4 ((S4.leave (mu := [(lr, lstObj rs nl), (it, o2)]) F6 N6 hT).1.drop k2 fun z hz => .inr (by rw [List.mem_singleton.mp hz]; exact nI)) oks2 hv hT hF
      have up5 : ∀ a o, PD D2 Av' a o → PD D5 Av' a o := fun a o y => pd5 a o (At.kp k2 (fun a t => .inl (hT a t)) (fun a t => .inl (hF a t)) (d2 a o y) (SgW.at (C := ⟨w, hb, A', outer, T'⟩) (mu := [(lr, lstObj rs nl), (it, o2)]) F6 N6 o4 (PD.sub s4 y)))
      replace N5 : News hb Lc s2.heap ((lr, lstObj rs nl) :: (it, o2) :: D5) := N5
      have r5 := r2.mono pd5
      have rl5 := rl2.mono up5
      have hs5 := hs2.mono up5
      clear F6 N6 S4 gf4 k2 oks2 r2
      k_steps
      refine seg_execs_nil ?_
      dsimp only
      refine seg_execs_cons (sg_stmt ?_)
      rw [over_for2 rfl]
      k_steps
      rename_i h6 F6 N6
      refine it_append (C := ⟨w, hb, A', outer, T'⟩) hne F6 N6 o5 hlen fun h7 n7 F7 N7 => ?_
      dsimp only
      refine seg_again rfl (ih (done ++ [x]) _ _ _ (by simp [hd]) ⟨h7, _, D5, h5, tv, _, _, n7, o2, rfl, rfl, ⟨S5, (by have := F7; rw [lpm_rry] at this; exact this), N7, o5⟩, fun h' P' e k => fd2 h' P' e fun a o y => k a o (up5 a o y), ?_, hs5⟩)
      rw [List.map_append]
      exact rl5.snoc r5
end Mine
end
theorem Mine.flush41 : True ∧ True := by
  w_top off
  try (fail_if_success walk1)
  exact ⟨trivial, trivial⟩
section
open PySem PySem.W PyProof.Rows PySem.Spec PySem.Calls PySem.W.X
set_option maxRecDepth 100000
set_option maxHeartbeats 2000000
namespace Mine
local macro_rules | `(tactic| k_mem) => `(tactic| first | exact List.Mem.head _ | assumption | exact Held.mem (by assumption) | (refine' List.Mem.tail _ ?_; k_mem))
local macro_rules | `(tactic| walk_at "call builtin:isinstance") => `(tactic| (refine wpAny_A0 (n := 0) (Fits.go (by assumption) (by omega)) ?_; first
  | (refine isi_tup_Var (Frag.In.keeps (by assumption) (Fr.keep (by assumption))) _ _ _ (News.get (by assumption) (by k_mem)) _ _ (fun t9 => ?_))
  | (refine isi_tup_Tup (Frag.In.keeps (by assumption) (Fr.keep (by assumption))) _ _ _ (News.get (by assumption) (by k_mem)) _ _ (fun t9 => ?_))
  | (refine isi_lst_Var (Frag.In.keeps (by assumption) (Fr.keep (by assumption))) _ _ _ (News.get (by assumption) (by k_mem)) _ _ (fun t9 => ?_))
  | (refine isi_lst_Tup (Frag.In.keeps (by assumption) (Fr.keep (by assumption))) _ _ _ (News.get (by assumption) (by k_mem)) _ _ (fun t9 => ?_))
  | (refine isi_lst_Lst (Frag.In.keeps (by assumption) (Fr.keep (by assumption))) _ _ _ (News.get (by assumption) (by k_mem)) _ _ (fun t9 => ?_))
  | (refine isi_dct_Var (Frag.In.keeps (by assumption) (Fr.keep (by assumption))) _ _ _ (News.get (by assumption) (by k_mem)) _ _ (fun t9 => ?_))
  | (refine isi_dct_Tup (Frag.In.keeps (by assumption) (Fr.keep (by assumption))) _ _ _ (News.get (by assumption) (by k_mem)) _ _ (fun t9 => ?_))
  | (refine isi_dct_Lst (Frag.In.keeps (by assumption) (Fr.keep (by assumption))) _ _ _ (News.get (by assumption) (by k_mem)) _ _ (fun t9 => ?_))
  | (refine isi_dct_Dct (Frag.In.keeps (by assumption) (Fr.keep (by assumption))) _ _ _ (News.get (by assumption) (by k_mem)) _ _ (fun t9 => ?_))
  | (refine isi_var_Var (Frag.In.keeps (by assumption) (Fr.keep (by assumption))) _ _ (News.get (by assumption) (by k_mem)) _ _ (fun t9 => ?_))
  | (refine isi_int_Var (Frag.In.keeps (by assumption) (Fr.keep (by assumption))) _ _ _ _ (fun t9 => ?_))
  | (refine isi_int_Tup (Frag.In.keeps (by assumption) (Fr.keep (by assumption))) _ _ _ _ (fun t9 => ?_))
  | (refine isi_int_Lst (Frag.In.keeps (by assumption) (Fr.keep (by assumption))) _ _ _ _ (fun t9 => ?_))
  | (refine isi_int_Dct (Frag.In.keeps (by assumption) (Fr.keep (by assumption))) _ _ _ _ (fun t9 => ?_))))
local macro_rules | `(tactic| walk_at "UnrEndW cons") => `(tactic| (refine unr_end1 (by assumption) (by assumption) (by assumption) (And.intro (.head _) trivial) ?_))
theorem it_gf {w : World} {hb h₀ h7 : Heap} {σ : Sb} {d : Addr} {ks : List Int} {n g : Nat} {cv v7 nm qn : Value} {t u : Tm} {xs : List (Tm × Tm)} {Av : Addr → Prop} {gs : GenState} {o ga Lc : Addr} (X : Ext hb h₀) (hav : ∀ a, Av a → ∃ o, h₀.get? a = some o) (e7 : Ext h₀ h7) (bL : h₀.get? Lc = none) (bg : h₀.get? ga = none)
    (ns7 : h7.Ns Lc (itBinds cv (.ref o) d)) (g7 : h7.get? ga = some (genObj g nm qn)) (p7 : GenI (At hb h7 fun a => Av a ∨ a = Lc) v7 (.ref ga)) (hgL : ga ≠ Lc) (hr : R (At hb h₀ Av) (.ref o) t) (hs : Sub (At hb h₀ Av) σ d ks) (ib : ItB w hb σ d ks n cv o t u xs gs Lc) : GF w hb (n + 1) Av u v7 gs g Lc h7 := by
  intro A' outer T' Av' wf ok
  have up7 : ∀ a o, At hb h7 Av a o → At hb h7 Av' a o := fun a o y => ⟨y.1, y.2.1, fun z => y.2.2 (ok.down a o z y.1)⟩
  have upL : ∀ a o, At hb h7 (fun a => Av a ∨ a = Lc) a o → At hb h7 (fun a => Av' a ∨ a = Lc) a o := fun a o y => ⟨y.1, y.2.1, fun z => z.elim (fun z => y.2.2 (.inl (ok.down a o z y.1))) fun z => y.2.2 (.inr z)⟩
  have nAvL : ¬ Av' Lc := fun z => by
    obtain ⟨oL, _, _, q, _⟩ := ns7
    obtain ⟨o, e⟩ := hav _ (ok.down _ _ z q)
    rw [bL] at e; cases e
  have atg : At hb h7 (fun a => Av a ∨ a = Lc) ga _ := ⟨g7, (by
    cases q : hb.get? ga with
    | none => rfl
    | some o => rw [X _ _ q] at bg; cases bg), fun z => z.elim (fun z => by obtain ⟨o, e⟩ := hav _ z; rw [bg] at e; cases e) hgL⟩
  refine GS.mk ⟨ga, nm, qn, itEvs u xs, p7.mono upL, upL _ _ atg, rfl, fun s1 kA hv oks => ?_⟩
  have conv : ∀ a o, At hb h₀ Av a o → At hb s1.heap (fun a => Av' a ∨ a = Lc) a o := fun a o y => by
    have z := At.kpA kA (up7 a o (At.ext e7 y))
    refine ⟨z.1, z.2.1, fun q => q.elim z.2.2 fun q => ?_⟩
    have y1 := y.1
    rw [q, bL] at y1
    cases y1
  exact ib A' outer T' Av' wf ok.t ok.f nAvL s1 (Heap.Ns.at' ns7 fun o e => kA Lc o e nAvL) (hr.mono conv) (hs.mono conv) hv oks
theorem it_use {w : World} {hb h₀ : Heap} (B : Base w hb) {σ : Sb} {d : Addr} {ks : List Int} {n : Nat} {cv : Value} {t u : Tm} {xs : List (Tm × Tm)} (sh : Shape cv t u xs) (kids : ∀ p ∈ xs, ReifyC w hb σ d ks n p.1 p.2)
    {A : Around} {s : Shared} {o L : Addr} {m : Str → Option Value} {D : List (Addr × Obj)} {Av : Addr → Prop} {Q E : Value → Shared → Prop} (fit : Fits A 5) (F : Fr hb L s.heap m) (N : News hb L s.heap D) (W : Wk hb h₀ Av L D)
    (h : ∀ ga gs nm qn Lc h8 t8 oLc D8, Fr hb L h8 m → News hb L h8 ((Lc, oLc) :: D8) → (∀ p ∈ D8, p.1 ∉ [Lc]) → Wk hb h₀ Av L D8 → h₀.get? Lc = none ∧ h₀.get? ga = none ∧ ga ≠ Lc → (∀ h' : Heap, h'.get? Lc = some oLc → h'.Ns Lc (itBinds cv (.ref o) d)) → (ga, genObj s.gens.size nm qn) ∈ D8 → gs.bare = true → ItB w hb σ d ks n cv o t u xs gs Lc →
      Q (.ref ga) { s with heap := h8, toks := t8, gens := s.gens.push gs }) :
    wpAny (model PySem.Challenge.rw_fe0177_01.prog w) A (call (.ref 227) [cv, .ref o, .ref d]) Q E s := by
  refine it_call B sh kids fit F.keep Q E fun ga gs nm qn Lc h8 t8 x8 nL8 gn8 ns8 g8 b8 ib => ?_
  have s8 : ∀ p ∈ D, p ∈ allX hb h8 [L, Lc] := fun p hp => allX_mem.mpr ⟨(N p hp).2.2, x8 _ _ (N p hp).1, fun q => (List.mem_cons.mp q).elim (N p hp).2.1 fun q => by
    have z := (N p hp).1
    rw [List.mem_singleton.mp q] at z
    exact nomatch nL8.symm.trans z⟩
  have nX : ∀ {x : Addr}, s.heap.get? x = none → h₀.get? x = none ∧ x ≠ L := fun {x} hx => by
    constructor
    · cases q : h₀.get? x with
      | none => rfl
      | some ob => exact nomatch hx.symm.trans ((Wk.done W F N) _ _ q)
    · intro e
      obtain ⟨ob, _, _, q, _⟩ := F.ns
      rw [← e] at q
      exact nomatch hx.symm.trans q
  have nb : ∀ {x : Addr}, s.heap.get? x = none → hb.get? x = none := fun {x} hx => by
    cases q : hb.get? x with
    | none => rfl
    | some o => exact nomatch hx.symm.trans (F.keep _ _ q)
  obtain ⟨oLc, es8, ep8, gLc, r8⟩ := ns8
  have hgl : ga ≠ Lc := fun e => by
    rw [e, gLc] at g8
    simp only [Option.some.injEq] at g8
    rw [g8] at r8
    exact nomatch r8.1
  refine h ga gs nm qn Lc h8 t8 oLc (allX hb h8 [L, Lc]) (Fr_ext F x8) (fun p hp => ?_) (fun p hp q => (allX_mem.mp hp).2.2 (.tail _ q)) (W.sub s8) ⟨(nX nL8).1, (nX gn8).1, hgl⟩ (fun h' e => ⟨oLc, es8, ep8, e, r8⟩) (allX_mem.mpr ⟨nb gn8, g8, fun q => (List.mem_cons.mp q).elim (nX gn8).2 fun q => hgl (List.mem_singleton.mp q)⟩) b8 ib
  rcases List.mem_cons.mp hp with rfl | hp
  · exact ⟨gLc, (nX nL8).2, nb nL8⟩
  · exact News_all (L := L) (X := [L, Lc]) (.head _) p hp
theorem rf_sh {w : World} {hb : Heap} (B : Base w hb) {σ : Sb} {d : Addr} {ks : List Int} {n : Nat} {cv : Value} {t u : Tm} {xs : List (Tm × Tm)} (sh : Shape cv t u xs) (kids : ∀ p ∈ xs, ReifyC w hb σ d ks n p.1 p.2) : ReifyC w hb σ d ks (n + 1) t u := by
  intro v
  have KX := B.kx
  revert KX
  k_fill
  intro KX A s Av fit X hav hr hs Q E hI hG
  obtain ⟨mean, mg, mb, T⟩ := B.top
  have hv : ∃ o, v = .ref o := by cases sh <;> cases hr <;> exact ⟨_, rfl⟩
  obtain ⟨o, rfl⟩ := hv
  refine wpAny_call ?_
  k_dflt (refine' enter (binds := [(Str.ofString "o", .ref o), (Str.ofString "s", .ref d)]) B X hav ?k6 ?k7 fit.room ?k9 ?kB ?c2 ?c3 ?c4 ?c5 ?_; (case k6 => k_is); (case k7 => k_is); (case k9 => exact BindsTo.of_eq rfl); (case c5 => decide); (case kB => exact locs rfl); (case c2 => exact rfl); (case c3 => exact rfl); (case c4 => exact rfl); k_whole)
  intro L h₁ D F N l1 W
  dsimp only
  k_fold
  k_steps
  refine RC.use (isvar_R B) F N W (Fits.go fit (by omega)) (hr.mono fun _ _ => W.pd) mono_R0 mono_c ?_
  intro v9 h9 t9 D9 F9 N9 s9 W9 p9
  subst p9
  cases sh with
  | tup2 =>
    have hr0 := hr
    cases hr with
    | tup2 ho ra rb =>
    have ho' := s9 _ (W.pd ho).1
    dsimp only [isV]
    k_steps
    rename_i Dt ht Ft Nt lt
    refine iter_tupTurns (vs := [.type "tuple", .type "list", .type "dict"]) (Fits.handled (Fits.go (m := 1) fit (by omega))) Ft Nt (.head _) rfl rfl ?_
    intro i' l1'
    k_steps
    refine it_use B .tup2 kids (Fits.go fit (by omega)) (by assumption) (by assumption) (Wk.cons (Wk.cons W9)) fun ga gs nm qn Lc h8 t8 oLc D8 F8 N8 off8 W8 hn ns8 g8 b8 ib => ?_
    k_steps
    refine RC.useX (gen_new B ga) [(Lc, oLc)] F8 N8 off8 W8 (Fits.go fit (by omega)) trivial mono_true (fun _ _ _ h x => GenI.mono h x) ?_
    intro v7 h7 t7 D7 F7 N7 o7 s7 W7 p7
    replace N7 : News hb L h7 ((Lc, oLc) :: D7) := N7
    k_steps
    have e7 : Ext s.heap h7 := Wk.done W7 F7 fun p hp => N7 p (.tail _ hp)
    have at7 : ∀ a o, PD D7 Av a o → At hb h7 (fun a => Av a ∨ a = Lc) a o := fun a o y => ⟨(N7 _ (.tail _ y.1)).1, (N7 _ (.tail _ y.1)).2.2, fun z => z.elim y.2 fun e => o7 _ y.1 (e ▸ .head _)⟩
    exact hG v7 ga gs Lc h7 _ rfl e7 hn.1 (p7.mono fun a o y => ⟨(at7 a o y).1, (at7 a o y).2.1, y.2⟩) b8 (it_gf X hav e7 hn.1 hn.2.1 (ns8 _ (N7 _ (.head _)).1) (N7 _ (.tail _ (s7 _ g8))).1 (p7.mono at7) hn.2.2 hr0 hs ib)
  | tup3 =>
    have hr0 := hr
    cases hr with
    | tup3 ho ra rb =>
    have ho' := s9 _ (W.pd ho).1
    dsimp only [isV]
    k_steps
    rename_i Dt ht Ft Nt lt
    refine iter_tupTurns (vs := [.type "tuple", .type "list", .type "dict"]) (Fits.handled (Fits.go (m := 1) fit (by omega))) Ft Nt (.head _) rfl rfl ?_
    intro i' l1'
    k_steps
    refine it_use B .tup3 kids (Fits.go fit (by omega)) (by assumption) (by assumption) (Wk.cons (Wk.cons W9)) fun ga gs nm qn Lc h8 t8 oLc D8 F8 N8 off8 W8 hn ns8 g8 b8 ib => ?_
    k_steps
    refine RC.useX (gen_new B ga) [(Lc, oLc)] F8 N8 off8 W8 (Fits.go fit (by omega)) trivial mono_true (fun _ _ _ h x => GenI.mono h x) ?_
    intro v7 h7 t7 D7 F7 N7 o7 s7 W7 p7
    replace N7 : News hb L h7 ((Lc, oLc) :: D7) := N7
    k_steps
    have e7 : Ext s.heap h7 := Wk.done W7 F7 fun p hp => N7 p (.tail _ hp)
    have at7 : ∀ a o, PD D7 Av a o → At hb h7 (fun a => Av a ∨ a = Lc) a o := fun a o y => ⟨(N7 _ (.tail _ y.1)).1, (N7 _ (.tail _ y.1)).2.2, fun z => z.elim y.2 fun e => o7 _ y.1 (e ▸ .head _)⟩
    exact hG v7 ga gs Lc h7 _ rfl e7 hn.1 (p7.mono fun a o y => ⟨(at7 a o y).1, (at7 a o y).2.1, y.2⟩) b8 (it_gf X hav e7 hn.1 hn.2.1 (ns8 _ (N7 _ (.head _)).1) (N7 _ (.tail _ (s7 _ g8))).1 (p7.mono at7) hn.2.2 hr0 hs ib)
  | lst =>
    have hr0 := hr
    cases hr with
    | lst ho ra rb =>
    have ho' := s9 _ (W.pd ho).1
    dsimp only [isV]
    k_steps
    rename_i Dt ht Ft Nt lt
    refine iter_tupTurns (vs := [.type "tuple", .type "list", .type "dict"]) (Fits.handled (Fits.go (m := 1) fit (by omega))) Ft Nt (.head _) rfl rfl ?_
    intro i' l1'
    k_steps
    refine it_use B .lst kids (Fits.go fit (by omega)) (by assumption) (by assumption) (Wk.cons (Wk.cons W9)) fun ga gs nm qn Lc h8 t8 oLc D8 F8 N8 off8 W8 hn ns8 g8 b8 ib => ?_
    k_steps
    refine RC.useX (gen_new B ga) [(Lc, oLc)] F8 N8 off8 W8 (Fits.go fit (by omega)) trivial mono_true (fun _ _ _ h x => GenI.mono h x) ?_
    intro v7 h7 t7 D7 F7 N7 o7 s7 W7 p7
    replace N7 : News hb L h7 ((Lc, oLc) :: D7) := N7
    k_steps
    have e7 : Ext s.heap h7 := Wk.done W7 F7 fun p hp => N7 p (.tail _ hp)
    have at7 : ∀ a o, PD D7 Av a o → At hb h7 (fun a => Av a ∨ a = Lc) a o := fun a o y => ⟨(N7 _ (.tail _ y.1)).1, (N7 _ (.tail _ y.1)).2.2, fun z => z.elim y.2 fun e => o7 _ y.1 (e ▸ .head _)⟩
    exact hG v7 ga gs Lc h7 _ rfl e7 hn.1 (p7.mono fun a o y => ⟨(at7 a o y).1, (at7 a o y).2.1, y.2⟩) b8 (it_gf X hav e7 hn.1 hn.2.1 (ns8 _ (N7 _ (.head _)).1) (N7 _ (.tail _ (s7 _ g8))).1 (p7.mono at7) hn.2.2 hr0 hs ib)
  | dct =>
    have hr0 := hr
    cases hr with
    | dct ho ra rb =>
    have ho' := s9 _ (W.pd ho).1
    dsimp only [isV]
    k_steps
    rename_i Dt ht Ft Nt lt
    refine iter_tupTurns (vs := [.type "tuple", .type "list", .type "dict"]) (Fits.handled (Fits.go (m := 1) fit (by omega))) Ft Nt (.head _) rfl rfl ?_
    intro i' l1'
    k_steps
    refine it_use B .dct kids (Fits.go fit (by omega)) (by assumption) (by assumption) (Wk.cons (Wk.cons W9)) fun ga gs nm qn Lc h8 t8 oLc D8 F8 N8 off8 W8 hn ns8 g8 b8 ib => ?_
    k_steps
    refine RC.useX (gen_new B ga) [(Lc, oLc)] F8 N8 off8 W8 (Fits.go fit (by omega)) trivial mono_true (fun _ _ _ h x => GenI.mono h x) ?_
    intro v7 h7 t7 D7 F7 N7 o7 s7 W7 p7
    replace N7 : News hb L h7 ((Lc, oLc) :: D7) := N7
    k_steps
    have e7 : Ext s.heap h7 := Wk.done W7 F7 fun p hp => N7 p (.tail _ hp)
    have at7 : ∀ a o, PD D7 Av a o → At hb h7 (fun a => Av a ∨ a = Lc) a o := fun a o y => ⟨(N7 _ (.tail _ y.1)).1, (N7 _ (.tail _ y.1)).2.2, fun z => z.elim y.2 fun e => o7 _ y.1 (e ▸ .head _)⟩
    exact hG v7 ga gs Lc h7 _ rfl e7 hn.1 (p7.mono fun a o y => ⟨(at7 a o y).1, (at7 a o y).2.1, y.2⟩) b8 (it_gf X hav e7 hn.1 hn.2.1 (ns8 _ (N7 _ (.head _)).1) (N7 _ (.tail _ (s7 _ g8))).1 (p7.mono at7) hn.2.2 hr0 hs ib)
end Mine
end
theorem Mine.flush42 : True ∧ True := by
  w_top off
  try (fail_if_success walk1)
  exact ⟨trivial, trivial⟩
section
open PySem PySem.W PyProof.Rows PySem.Spec PySem.Calls PySem.W.X
set_option maxRecDepth 100000
set_option maxHeartbeats 2000000
namespace Mine
/-- what a variable may stand for -/
inductive Vt : Tm → Prop where
  | var (k : Int) : Vt (.var k)
  | int {i : Int} : 0 ≤ i → i < 4 → Vt (.int i)
  | tup2 {a b : Tm} {h k : Int} : Lf a h → Lf b k → Vt (.tup2 a b)
  | tup3 {a b : Tm} {h k : Int} : Lf a h → Lf b k → Vt (.tup3 a b)
  | lst (a b : Tm) : Vt (.lst a b)
  | dct (a b : Tm) : Vt (.dct a b)
def SbOk (σ : Sb) : Prop := ∀ k t, σ.Has k (some t) → Vt t
theorem ch_of {σ : Sb} (hσ : SbOk σ) {n : Nat} {t u : Tm} (f : Full σ n t u) : Vt t → ∃ te n0 n', Ch σ n0 t te ∧ Full σ n' te u ∧ n' ≤ n ∧ ∀ j, te = .var j → σ.Has j none := by
  induction f with
  | int n i => intro v; cases v with | int a b => exact ⟨_, 0, n, .stop (.int a b), .int n i, Nat.le_refl _, fun j e => nomatch e⟩
  | @free n k h => intro _; exact ⟨_, 0, n, .stop (.free h), .free h, Nat.le_refl _, fun j e => by cases e; exact h⟩
  | var h f ih =>
    intro _
    obtain ⟨te, n0, n', c, g, l, e⟩ := ih (hσ _ _ h)
    exact ⟨te, n0 + 1, n', .step h c, g, Nat.le_succ_of_le l, e⟩
  | tup2 fa fb _ _ => intro v; cases v with | tup2 la lb => exact ⟨_, 0, _, .stop (.tup2 la lb), .tup2 fa fb, Nat.le_refl _, fun j e => nomatch e⟩
  | tup3 fa fb _ _ => intro v; cases v with | tup3 la lb => exact ⟨_, 0, _, .stop (.tup3 la lb), .tup3 fa fb, Nat.le_refl _, fun j e => nomatch e⟩
  | lst fa fb _ _ => intro _; exact ⟨_, 0, _, .un .lst, .lst fa fb, Nat.le_refl _, fun j e => nomatch e⟩
  | dct fa fb _ _ => intro _; exact ⟨_, 0, _, .un .dct, .dct fa fb, Nat.le_refl _, fun j e => nomatch e⟩
theorem reify_of {w : World} {hb : Heap} (B : Base w hb) {σ : Sb} {d : Addr} {ks : List Int} (hσ : SbOk σ) : ∀ (n : Nat) {t u : Tm}, Full σ n t u → ∀ m, 2 * n < m → ReifyC w hb σ d ks m t u := by
  intro n
  induction n using Nat.strongRecOn with
  | _ n ih =>
  intro t u f m hm
  obtain ⟨m', rfl⟩ : ∃ m', m = m' + 1 := ⟨m - 1, by omega⟩
  cases f with
  | int _ i => exact rf_int B
  | free h => exact rf_var B (n0 := 0) (.stop (.free h)) (.inl ⟨h, rfl, rfl⟩)
  | @var n1 k t' _ h f =>
    obtain ⟨te, n0, n', c, g, l, e⟩ := ch_of hσ f (hσ _ _ h)
    exact rf_var B (.step h c) (.inr ⟨fun q => (nomatch Has.fn h (e k q)), ih n' (by omega) g m' (by omega)⟩)
  | @tup2 n1 _ _ _ _ fa fb =>
    refine rf_sh B .tup2 fun p hp => ?_
    rcases List.mem_cons.mp hp with rfl | hp
    · exact ih n1 (by omega) fa m' (by omega)
    · rw [List.mem_singleton.mp hp]; exact ih n1 (by omega) fb m' (by omega)
  | @tup3 n1 _ _ _ _ fa fb =>
    refine rf_sh B .tup3 fun p hp => ?_
    rcases List.mem_cons.mp hp with rfl | hp
    · exact ih n1 (by omega) fa m' (by omega)
    · rcases List.mem_cons.mp hp with rfl | hp
      · exact rf_int B
      · rw [List.mem_singleton.mp hp]; exact ih n1 (by omega) fb m' (by omega)
  | @lst n1 _ _ _ _ fa fb =>
    refine rf_sh B .lst fun p hp => ?_
    rcases List.mem_cons.mp hp with rfl | hp
    · exact ih n1 (by omega) fa m' (by omega)
    · rw [List.mem_singleton.mp hp]; exact ih n1 (by omega) fb m' (by omega)
  | @dct n1 a b x y fa fb =>
    obtain ⟨m2, rfl⟩ : ∃ m2, m' = m2 + 1 := ⟨m' - 1, by omega⟩
    have one : ∀ (i : Int) {c z : Tm}, Full σ n1 c z → ReifyC w hb σ d ks (m2 + 1) (.tup2 (.int i) c) (.tup2 (.int i) z) := fun i c z g => by
      refine rf_sh B .tup2 fun p hp => ?_
      rcases List.mem_cons.mp hp with rfl | hp
      · exact rf_int B
      · rw [List.mem_singleton.mp hp]; exact ih n1 (by omega) g m2 (by omega)
    refine rf_sh B .dct fun p hp => ?_
    rcases List.mem_cons.mp hp with rfl | hp
    · exact one 0 fa
    · rw [List.mem_singleton.mp hp]; exact one 1 fb
end Mine
end
theorem Mine.flush43 : True ∧ True := by
  w_top off
  try (fail_if_success walk1)
  exact ⟨trivial, trivial⟩
section
open PySem PySem.W PyProof.Rows PySem.Spec PySem.Calls PySem.W.X
set_option maxRecDepth 100000
set_option maxHeartbeats 2000000
namespace Mine
def dm (st : Addr) (va vo : Value) (rest : Str → Option Value) : Str → Option Value := fun y =>
  if y = Str.ofString "stack" then some (.ref st) else if y = Str.ofString "z_args" then some va else if y = Str.ofString "z_out" then some vo else if y = Str.ofString "res_filter" then some .none else rest y
/-- the driver at a turn -/
structure DS (C : GCtx) (L st : Addr) (bs : List Value) (va vo : Value) (rest : Str → Option Value) (h : Heap) : Prop where
  ok : OKs C h
  ns : h.Ns L (dm st va vo rest)
  lst : ∃ n, h.get? st = some (lstObj bs n)
def After (C : GCtx) (child : ChildSpec) (Av : Addr → Prop) (L st : Addr) (bs : List Value) (v : Value) (g : Nat) (hI : Heap) (evs : List Ev) (Lg : Addr) (s s4 : Shared) (i : Nat) (v1 : Value) (gs : GenState) (rest : Str → Option Value) : Ev → Prop
  | .child u => DS C L st (bs ++ [v, v1]) .none v1 rest s4.heap ∧ ∃ Av1 gsc Lc, (∀ a, Av a → Av1 a) ∧ Have Av1 s4.heap ∧ hI.get? Lc = none ∧ s4.gens = ((s.gens.setIfInBounds g .running).push gsc).setIfInBounds g gs ∧ gsc.bare = true ∧ child Av1 u v1 gsc s.gens.size Lc s4.heap ∧
      ∀ r s5, Kp C [Lc] s4.heap s5.heap → OKs C s5.heap → R (At C.hb s5.heap Av1) r u → gs.Goes (MG C.w) C.A (RS C hI Lg) (YS C child evs hI Av Lg) i (.send r) s5
  | .plain => DS C L st (bs ++ [v]) v1 v1 rest s4.heap ∧ s4.gens = (s.gens.setIfInBounds g .running).setIfInBounds g gs ∧ ∀ s5, Kp C [] s4.heap s5.heap → OKs C s5.heap → gs.Goes (MG C.w) C.A (RS C hI Lg) (YS C child evs hI Av Lg) i (.send v1) s5
  | .result u => (DS C L st (bs ++ [v]) v1 v1 rest s4.heap ∧ s4.gens = (s.gens.setIfInBounds g .running).setIfInBounds g gs ∧ ∀ s5, Kp C [] s4.heap s5.heap → OKs C s5.heap → gs.Goes (MG C.w) C.A (RS C hI Lg) (YS C child evs hI Av Lg) i (.send v1) s5) ∧ R (At C.hb s4.heap Av) v1 u
def NextG (C : GCtx) (child : ChildSpec) (Av : Addr → Prop) (L st : Addr) (bs : List Value) (v va vo : Value) (g : Nat) (hI : Heap) (evs : List Ev) (Lg : Addr) (G : Shared → Prop) (s : Shared) (i : Nat) : Prop :=
  (∀ s4 rest, i = 0 → DS C L st bs va vo rest s4.heap → Kp C [Lg] hI s4.heap → Kp C [] s.heap s4.heap → Same s s4 → s4.gens = (s.gens.setIfInBounds g .running).setIfInBounds g .finished → G s4) ∧
  ∀ i' e s4 v1 gs rest, i = i' + 1 → evs[i']? = some e → gs.bare = true → Kp C [Lg] hI s4.heap → Same s s4 → After C child Av L st bs v g hI evs Lg s s4 i' v1 gs rest e → G s4
/-- what a turn does -/
def Turn (C : GCtx) (L st : Addr) (G : Shared → Prop) : Prop := ∀ (child : ChildSpec) (evs : List Ev) (Av : Addr → Prop) (Lg : Addr) (i : Nat) (bs : List Value) (v : Value) (ga : Addr) (g : Nat) (nm qn va vo : Value) (rest : Str → Option Value) (gs : GenState) (s : Shared), bs.length ≤ 60 →
  (∀ Av u v gs g L h h', child Av u v gs g L h → KpA Av h h' → child Av u v gs g L h') → (∀ Av u v gs g L h, child Av u v gs g L h → ∃ ga, GenI (At C.hb h Av) v (.ref ga)) → DS C L st (bs ++ [v]) va vo rest s.heap → GenI (At C.hb s.heap Av) v (.ref ga) → At C.hb s.heap Av ga (genObj g nm qn) → (∀ a, C.T a → Av a) → (∀ a ∈ frs C.outer, Av a) → s.gens[g]? = some gs →
  (∀ s2 : Shared, s2.gens = s.gens → Same s s2 → Kp C [] s.heap s2.heap → OKs C s2.heap → ∃ hI, gs.Goes (MG C.w) C.A (RS C hI Lg) (YS C child evs hI Av Lg) i (.send va) (s2.setGen g .running) ∧ NextG C child Av L st bs v va vo g hI evs Lg G s i) → G s
def GK (g : Nat) (a b : Array GenState) : Prop := a.size ≤ b.size ∧ (∀ j, j < a.size → j ≠ g → b[j]? = a[j]?) ∧ ((∀ x ∈ a, x.bare = true) → ∀ x ∈ b, x.bare = true)
theorem GK.refl (g : Nat) (a : Array GenState) : GK g a a := ⟨Nat.le_refl _, fun _ _ _ => rfl, fun h => h⟩
theorem bare_set {a : Array GenState} {g : Nat} {x : GenState} (hx : x.bare = true) (h : ∀ y ∈ a, y.bare = true) : ∀ y ∈ a.setIfInBounds g x, y.bare = true := fun y hy => by
  rcases Array.mem_or_eq_of_mem_setIfInBounds hy with h1 | h1
  · exact h y h1
  · exact h1 ▸ hx
theorem GK.set {g : Nat} {a b : Array GenState} {x y : GenState} (k : GK g a b) (hx : x.bare = true) (hy : y.bare = true) : GK g a ((b.setIfInBounds g x).setIfInBounds g y) := by
  refine ⟨by simpa using k.1, fun j hj hn => ?_, fun h => bare_set hy (bare_set hx (k.2.2 h))⟩
  rw [Array.getElem?_setIfInBounds_ne (Ne.symm hn), Array.getElem?_setIfInBounds_ne (Ne.symm hn)]
  exact k.2.1 j hj hn
theorem GK.push {g : Nat} {a b : Array GenState} {x : GenState} (k : GK g a b) (hx : x.bare = true) : GK g a (b.push x) := by
  refine ⟨by rw [Array.size_push]; exact Nat.le_succ_of_le k.1, fun j hj hn => ?_, fun h y hy => ?_⟩
  · rw [Array.getElem?_push_lt (Nat.lt_of_lt_of_le hj k.1), ← k.2.1 j hj hn, Array.getElem?_eq_getElem]
  · rcases Array.mem_push.mp hy with h1 | h1
    · exact k.2.2 h y h1
    · exact h1 ▸ hx
theorem GS.un {C : GCtx} {n : Nat} {Av : Addr → Prop} {u : Tm} {v : Value} {gs : GenState} {g : Nat} {Lg : Addr} {h : Heap} (x : GS C n Av u v gs g Lg h) : GSof C (childOf C n) Av u v gs g Lg h := by
  cases n with
  | zero => exact x
  | succ n => exact x
theorem childOf.mono {C : GCtx} {n : Nat} : ∀ Av u v gs g L h h', childOf C n Av u v gs g L h → KpA Av h h' → childOf C n Av u v gs g L h' := by
  intro Av u v gs g L h h' x k
  cases n with
  | zero => exact x.elim
  | succ n => exact GS.kpA x k
theorem childOf.gen {C : GCtx} {n : Nat} : ∀ Av u v gs g L h, childOf C n Av u v gs g L h → ∃ ga, GenI (At C.hb h Av) v (.ref ga) := by
  intro Av u v gs g L h x
  cases n with
  | zero => exact x.elim
  | succ n =>
    obtain ⟨ga, _, _, _, gi, _⟩ := GS.un x
    exact ⟨ga, gi.mono fun a o y => ⟨y.1, y.2.1, fun z => y.2.2 (.inl z)⟩⟩
theorem DS.app {C : GCtx} {L st : Addr} {bs : List Value} {v v1 va vo : Value} {rest : Str → Option Value} {h : Heap} (d : DS C L st (bs ++ [v, v1]) va vo rest h) : DS C L st ((bs ++ [v]) ++ [v1]) va vo rest h := by
  rw [List.append_assoc]; exact d
theorem drive {C : GCtx} {L st : Addr} {G : Shared → Prop} (T : Turn C L st G) : ∀ (n : Nat) {Av : Addr → Prop} {u : Tm} {v : Value} {gs : GenState} {g : Nat} {Lg : Addr} (s : Shared) (bs : List Value) (vo : Value) (rest : Str → Option Value), bs.length + n ≤ 60 →
    DS C L st (bs ++ [v]) .none vo rest s.heap → GS C n Av u v gs g Lg s.heap → (∀ a, C.T a → Av a) → (∀ a ∈ frs C.outer, Av a) → Have Av s.heap → s.gens[g]? = some gs →
    (∀ s' r rest', DS C L st bs r r rest' s'.heap → Kp C [Lg] s.heap s'.heap → R (At C.hb s'.heap Av) r u → Same s s' → GK g s.gens s'.gens → G s') → G s := by
  intro n
  induction n using Nat.strongRecOn with
  | _ n ihn =>
  intro Av u v gs g Lg s bs vo rest hlen ds x hT hF hv hg hk
  obtain ⟨ga, nm, qn, evs, gi, atg, last, goes⟩ := GS.un x
  have glt : g < s.gens.size := (Array.getElem?_eq_some_iff.mp hg).1
  have inner : ∀ i, ∀ hI, Kp C [] s.heap hI → (∀ a, C.T a → ∃ o, hI.get? a = some o) → ∀ s' vo' va', GK g s.gens s'.gens → Same s s' → (i = 0 → va' = vo' ∧ R (At C.hb s'.heap Av) vo' u) →
      NextG C (childOf C n) Av L st bs v va' vo' g hI evs Lg G s' i := by
    intro i
    induction i with
    | zero =>
      intro hI kI tI s' vo' va' gk same h0
      refine ⟨fun s4 rest4 _ ds4 kp4 k4 same4 hg4 => ?_, fun i' e s4 v1 gs1 rest4 hi => nomatch hi⟩
      obtain ⟨rfl, r⟩ := h0 rfl
      refine hk s4 va' rest4 ds4 ((kI.mono fun _ h => nomatch h).trans kp4) (r.mono fun a o y => At.kp k4 hT hF (fun h => nomatch h) y) ⟨same4.1.trans same.1, same4.2.trans same.2⟩ ?_
      rw [hg4]
      exact gk.set rfl rfl
    | succ i ih =>
      intro hI kI tI s' vo' va' gk same h0
      refine ⟨fun s4 rest4 h => (nomatch h), fun i' e s4 v1 gs1 rest4 hi he hb kp4 same4 af => ?_⟩
      obtain rfl : i' = i := by omega
      have glt' : g < s'.gens.size := Nat.lt_of_lt_of_le glt gk.1
      have sm4 : Same s s4 := ⟨same4.1.trans same.1, same4.2.trans same.2⟩
      have up : ∀ {h : Heap}, Kp C [Lg] hI h → ∀ a o, At C.hb s.heap (fun a => Av a ∨ a = Lg) a o → At C.hb h Av a o := fun k a o y => by
        have y0 : At C.hb s.heap Av a o := ⟨y.1, y.2.1, fun z => y.2.2 (.inl z)⟩
        exact At.kp k hT hF (fun m => y.2.2 (.inr (List.mem_singleton.mp m))) (At.kp kI hT hF (fun h => nomatch h) y0)
      have lastR : ∀ u', e = .result u' ∨ e = .child u' → i' = 0 → u' = u := fun u' hu h0 => by
        subst h0
        cases evs with
        | nil => cases he
        | cons e0 es =>
          simp only [List.getElem?_cons_zero, Option.some.injEq] at he
          subst he
          rcases hu with rfl | rfl
          · exact last
          · exact last
      -- to the next turn with the same generator on top
      have turn : ∀ s5 w1 rest5, DS C L st (bs ++ [v]) w1 w1 rest5 s5.heap → Kp C [Lg] hI s5.heap → s5.gens[g]? = some gs1 → GK g s.gens s5.gens → Same s s5 → (∀ s6, Kp C [] s5.heap s6.heap → OKs C s6.heap → gs1.Goes (MG C.w) C.A (RS C hI Lg) (YS C (childOf C n) evs hI Av Lg) i' (.send w1) s6) → (i' = 0 → R (At C.hb s5.heap Av) w1 u) → G s5 :=
        fun s5 w1 rest5 ds5 kp5 hg5 gk5 sm5 go5 r5 => T (childOf C n) evs Av Lg i' bs v ga g nm qn w1 w1 rest5 gs1 s5 (by omega) childOf.mono childOf.gen ds5 (gi.mono (up kp5)) (up kp5 _ _ atg) hT hF hg5 fun s6 hg6 sm6 k6 ok6 =>
          ⟨hI, go5 (s6.setGen g .running) k6 ok6, ih hI kI tI s5 w1 w1 gk5 sm5 fun h0 => ⟨rfl, r5 h0⟩⟩
      have gsame : s4.gens = (s'.gens.setIfInBounds g .running).setIfInBounds g gs1 → s4.gens[g]? = some gs1 ∧ GK g s.gens s4.gens := fun hg4 => by
        rw [hg4]
        exact ⟨by rw [Array.getElem?_setIfInBounds_self, if_pos (by simpa using glt')], gk.set rfl hb⟩
      cases e with
      | result u' =>
        obtain ⟨⟨ds4, hg4, go⟩, r⟩ := af
        obtain ⟨q1, q2⟩ := gsame hg4
        exact turn s4 v1 rest4 ds4 kp4 q1 q2 sm4 go fun h0 => lastR u' (.inl rfl) h0 ▸ r
      | plain =>
        obtain ⟨ds4, hg4, go⟩ := af
        obtain ⟨q1, q2⟩ := gsame hg4
        refine turn s4 v1 rest4 ds4 kp4 q1 q2 sm4 go fun h0 => ?_
        subst h0
        cases evs with
        | nil => cases he
        | cons e0 es =>
          simp only [List.getElem?_cons_zero, Option.some.injEq] at he
          subst he
          exact last.elim
      | child u' =>
        obtain ⟨ds4, Av1, gsc, Lc, up1, hv1, nI, hg4, bc, ch, go⟩ := af
        cases n with
        | zero => exact ch.elim
        | succ n =>
        have gk4 : GK g s.gens s4.gens := by
          rw [hg4]
          have := (gk.set (x := .running) (y := .running) rfl rfl).push bc
          have e : ((s'.gens.setIfInBounds g .running).setIfInBounds g .running) = s'.gens.setIfInBounds g .running := by simp
          rw [e] at this
          have z := GK.set this (x := gs1) (y := gs1) hb hb
          have e2 : ((((s'.gens.setIfInBounds g .running).push gsc).setIfInBounds g gs1).setIfInBounds g gs1) = ((s'.gens.setIfInBounds g .running).push gsc).setIfInBounds g gs1 := by simp
          rw [e2] at z
          exact z
        have hgc : s4.gens[s'.gens.size]? = some gsc := by
          rw [hg4, Array.getElem?_setIfInBounds_ne (Nat.ne_of_lt glt')]
          have := Array.getElem?_push_size (xs := s'.gens.setIfInBounds g .running) (x := gsc)
          simpa using this
        have hg4' : s4.gens[g]? = some gs1 := by
          rw [hg4, Array.getElem?_setIfInBounds_self, if_pos (by simp; omega)]
        refine ihn n (Nat.lt_succ_self n) s4 (bs ++ [v]) v1 rest4 (by simp only [List.length_append, List.length_cons, List.length_nil]; omega) ds4.app ch (fun a h => up1 a (hT a h)) (fun a h => up1 a (hF a h)) hv1 hgc fun s5 r rest5 ds5 k5 r5 sm5 gk5 => ?_
        have kp5 : Kp C [Lg] hI s5.heap := kp4.drop k5 fun z hz => .inr (by rw [List.mem_singleton.mp hz]; exact nI)
        have lt4 : g < s4.gens.size := (Array.getElem?_eq_some_iff.mp hg4').1
        refine turn s5 r rest5 ds5 kp5 ((gk5.2.1 g lt4 (Nat.ne_of_lt glt')).trans hg4') ⟨Nat.le_trans gk4.1 gk5.1, fun j hj hn => ?_, fun h => gk5.2.2 (gk4.2.2 h)⟩ ⟨sm5.1.trans sm4.1, sm5.2.trans sm4.2⟩ (fun s6 k6 ok6 => go r s6 (k5.trans (k6.mono fun _ h => nomatch h)) ok6 (r5.mono fun a o y => At.kp k6 (fun a h => up1 a (hT a h)) (fun a h => up1 a (hF a h)) (fun h => nomatch h) y)) fun h0 => ?_
        · rw [gk5.2.1 j (Nat.lt_of_lt_of_le hj gk4.1) (Nat.ne_of_lt (Nat.lt_of_lt_of_le hj gk.1)), gk4.2.1 j hj hn]
        · rw [← lastR u' (.inr rfl) h0]
          exact r5.mono fun a o y => ⟨y.1, y.2.1, fun z => y.2.2 (up1 a z)⟩
  refine T (childOf C n) evs Av Lg evs.length bs v ga g nm qn .none vo rest gs s (by omega) childOf.mono childOf.gen ds (gi.mono fun a o y => ⟨y.1, y.2.1, fun z => y.2.2 (.inl z)⟩) ⟨atg.1, atg.2.1, fun z => atg.2.2 (.inl z)⟩ hT hF hg fun s2 hg2 sm2 k2 ok2 => ?_
  have hv2 : Have Av s2.heap := fun a ha => by
    by_cases t : C.T a
    · exact ok2.te a t
    · obtain ⟨o, e⟩ := hv a ha
      obtain ⟨sl, e'⟩ := k2.some e t fun h => nomatch h
      exact ⟨_, e'⟩
  have kA : KpA Av s.heap s2.heap := fun b o e n => (k2 b o e (fun t => n (hT b t)) fun h => nomatch h).1 fun f => n (hF b f)
  refine ⟨s2.heap, goes (s2.setGen g .running) kA hv2 ok2, ?_⟩
  have nz : evs.length ≠ 0 := fun h => by
    cases evs with
    | nil => exact last
    | cons _ _ => cases h
  exact inner evs.length s2.heap k2 ok2.te s vo .none (GK.refl _ _) ⟨rfl, rfl⟩ fun h0 => absurd h0 nz
end Mine
end
theorem Mine.flush44 : True ∧ True := by
  w_top off
  try (fail_if_success walk1)
  exact ⟨trivial, trivial⟩
section
open PySem PySem.W PyProof.Rows PySem.Spec PySem.Calls PySem.W.X
set_option maxRecDepth 100000
set_option maxHeartbeats 2000000
namespace Mine
section
variable {prog : Program} {w : World} {A : Around} {env : Env} {R : Result → Shared → Prop} {s : Shared}
/-- one turn of a while -/
theorem while_turn {test : PySem.Expr} {body orelse : List Stmt}
    (h : wpAny (model prog w) A (isTrue test env (eval test env)) (fun b s₂ =>
        if b then wpAny (model prog w) A (execs body env) (fun f s₃ => match f with
            | .next | .cont => codeAny (model prog w) A (.whileLoop test body orelse env) R s₃
            | .brk => R (.ok .next) s₃
            | .ret v => R (.ok (.ret v)) s₃) (notedBy (model prog w) A env fun e s' => R (.error e) s') s₂
        else wpAny (model prog w) A (execs orelse env) (fun f s₃ => R (.ok f) s₃) (notedBy (model prog w) A env fun e s' => R (.error e) s') s₂)
        (notedBy (model prog w) A env fun e s' => R (.error e) s') s) : codeAny (model prog w) A (.whileLoop test body orelse env) R s := by
  refine codeAny_of_tree ?_
  show wpAny _ A ((whileTurn test body orelse env).onRaise (fun x => do noteFrame x env; theTreesLotGoes x)) _ _ s
  refine wpAny_noted ?_
  simp only [whileTurn]
  refine wpAny_bind (wpAny_mono h (fun b s₂ h₂ => ?_) fun _ _ h' => h')
  cases b with
  | false =>
    simp only [Bool.false_eq_true, if_false] at h₂ ⊢
    exact wpAny_bind (wpAny_mono h₂ (fun f s₃ h₃ => wpAny_pure h₃) fun _ _ h' => h')
  | true =>
    simp only [if_true] at h₂ ⊢
    refine wpAny_bind (wpAny_mono h₂ (fun f s₃ h₃ => ?_) fun _ _ h' => h')
    cases f with
    | next => exact wpAny_pure ⟨rfl, h₃⟩
    | cont => exact wpAny_pure ⟨rfl, h₃⟩
    | brk => exact wpAny_pure h₃
    | ret v => exact wpAny_pure h₃
end
theorem last_of : ∀ (bs : List Value) (v : Value), kl_last (bs ++ [v]) = some (bs, v)
  | [], v => rfl
  | b :: bs, v => by
    show (match kl_last (bs ++ [v]) with | some (p, y) => some (b :: p, y) | none => some ([], b)) = _
    rw [last_of bs v]
section
variable {w : World} {hb : Heap} {A : Around} {s : Shared} {L st : Addr} {m : Str → Option Value} {D : List (Addr × Obj)} {bs : List Value} {v : Value} {n : Nat} {Q E : Value → Shared → Prop}
theorem st_pop (F : Fr hb L s.heap m) (N : News hb L s.heap ((st, lstObj (bs ++ [v]) n) :: D)) (off : ∀ p ∈ D, p.1 ≠ st) (hlen : bs.length ≤ 60)
    (h : ∀ h' n', Fr hb L h' m → News hb L h' ((st, lstObj bs n') :: D) → Q v { s with heap := h' }) : wpAny (MG w) A (call (.builtin "list.pop") [.ref st]) Q E s :=
  kl_pop (its := (bs ++ [v]).toArray) F N (last_of bs v) (Upd.head off) (by show (bs ++ [v]).length ≤ sizeLine; simp only [List.length_append, List.length_cons, List.length_nil]; exact Nat.le_trans (Nat.succ_le_succ hlen) (by decide)) fun h' F' N' => h h' _ F' N'
theorem st_append (F : Fr hb L s.heap m) (N : News hb L s.heap ((st, lstObj bs n) :: D)) (off : ∀ p ∈ D, p.1 ≠ st) (hlen : bs.length ≤ 62)
    (h : ∀ h' n', Fr hb L h' m → News hb L h' ((st, lstObj (bs ++ [v]) n') :: D) → Q .none { s with heap := h' }) : wpAny (MG w) A (call (.builtin "list.append") [.ref st, v]) Q E s := by
  have q := N _ (.head _)
  refine wpAny_list_append_plain (items := bs.toArray) ⟨_, q.1⟩ (fun h' p k => ?_) (by simp only [List.size_toArray]; exact Nat.le_trans hlen (by decide))
  obtain ⟨n', e⟩ := p
  have e' : h'.get? st = some (lstObj (bs ++ [v]) n') := by rw [e, List.push_toArray]
  have kk : ∀ b o, b ≠ st → s.heap.get? b = some o → h'.get? b = some o := fun b o n e => k.extBut b o n e
  refine h h' n' ⟨Heap.Ns.at' F.ns fun o => kk L o (Ne.symm q.2.1), fun b o z => kk b o (fun e => by rw [e] at z; exact nomatch q.2.2.symm.trans z) (F.keep b o z), F.above⟩ fun p hp => ?_
  rcases List.mem_cons.mp hp with rfl | hp
  · exact ⟨e', q.2⟩
  · have z := N _ (.tail _ hp)
    exact ⟨kk _ _ (off p hp) z.1, z.2⟩
theorem st_truthy {Q : Bool → Shared → Prop} {E : Value → Shared → Prop} (N : News hb L s.heap ((st, lstObj bs n) :: D)) (hlen : bs.length ≤ 62) (h : ∀ tk, Q (!bs.isEmpty) { s with toks := tk }) : wpAny (MG w) A (truthy (.ref st)) Q E s := by
  refine wpAny_truthy_list (items := bs.toArray) ⟨_, (N _ (.head _)).1, rfl, _, rfl⟩ (by simp only [List.size_toArray]; omega) ?_
  have e : (!bs.toArray.isEmpty) = !bs.isEmpty := by cases bs <;> rfl
  rw [e]
  exact h _
theorem st_last {t : Tok} (N : News hb L s.heap ((st, lstObj (bs ++ [v]) n) :: D)) {value slice : PySem.Expr} (h : Q v s)
    (hs : subscripted slice false (.ref st) (.int (-1) t) = operate [.ref st, .int (-1) t] (getItem (.ref st) (.int (-1) t)) := by with_unfolding_all rfl) (ht : ∀ r, letTemporaryGo value (.ref st) r = pure () := by intro _; with_unfolding_all rfl) : wpAny (MG w) A (subscriptTail value slice (.ref st) (.int (-1) t)) Q E s := by
  have hl : s.heap.IsList st (bs ++ [v]).toArray := ⟨_, (N _ (.head _)).1, rfl, _, rfl⟩
  refine subscriptTail_builtin hl.typeIs slot_list_getitem.lookup (wpAny_getItem_list_neg hl (by omega) (by simp only [List.size_toArray, List.length_append, List.length_cons, List.length_nil]; omega) (by decide) ?_ h) hs ht
  have e : ((-1 : Int) + ((bs ++ [v]).toArray.size : Nat)).toNat = bs.length := by simp only [List.size_toArray, List.length_append, List.length_cons, List.length_nil]; omega
  rw [e]
  simp
end
end Mine
end
theorem Mine.flush45 : True ∧ True := by
  w_top off
  try (fail_if_success walk1)
  exact ⟨trivial, trivial⟩
section
open PySem PySem.W PyProof.Rows PySem.Spec PySem.Calls PySem.W.X
set_option maxRecDepth 100000
set_option maxHeartbeats 2000000
namespace Mine
theorem slot_gen_send : Slot "generator" "send" "generator.send" :=
  .of (owner := "generator") (n := "send") (by rw [typeLookup_type, builtinLookup_eq_fast]; kernel_rfl) (by decide +kernel) (by decide +kernel) (by decide +kernel)
    (by first | exact .inl (by decide +kernel) | exact .inr (by decide +kernel)) (by rw [isSubtype_type]; kernel_rfl)
theorem entry_gen_send : entryFor table "generator.send" = some Builtin.«generator.send» := entryFor_of_tree (by kernel_rfl)
theorem args_gen_send (a b : Value) : argsOk "generator.send" ⟨[a, b], []⟩ := by unfold argsOk; kernel_rfl
theorem type_gen_send : typeOf (.builtin "generator.send") = pure (.type "method_descriptor") := by show builtinType _ = _; rw [builtinType_eq_fast]; kernel_rfl
theorem stop_exc {M : Model} {A : Around} {α β : Type} {s : Shared} {Q : α → Shared → Prop} {E : Value → Shared → Prop} {k : β → Sem α} (hh : A.handled = none) (h : ∀ h' e, Heap.NewExc s.heap h' e "StopIteration" → E (.ref e) { s with heap := h' }) :
    wpAny M A (newExc (.type "StopIteration") [] >>= fun e => (raiseNew e : Sem β) >>= k) Q E s := by
  refine wpAny_bind ?_
  simp only [newExc, newTuple]
  refine wpAny_bind (wpAny_newObj_type ?_ (by size_fits))
  refine wpAny_bind (m := firstArgMember _ _) (wpAny_of_eq (a := Value.none) (by first | rfl | (simp only [firstArgMember]; rfl)) ?_)
  refine wpAny_newObj_type ?_ (by size_fits)
  refine wpAny_bind (wpAny_raiseNew_none hh (h _ _ ⟨fun b o e => Heap.get?_push_of_some _ (Heap.get?_push_of_some _ e), Heap.get?_none_of_le (by simp), ⟨_, _, Heap.get?_push_size _ rfl, rfl, rfl⟩⟩))
section
variable {w : World} {A : Around} {E : Value → Shared → Prop} {s : Shared}
theorem gen_send {ga : Addr} {g n : Nat} {gs : GenState} {va : Value} {R : GenEnd} {Y : Protocol} {Q : Value → Shared → Prop} (hh : A.handled = none) (hl : s.heap.NoLimit) (hroom : A.depth < recursionLimit) (hG : s.heap.IsGen ga g) (hgs : s.gens[g]? = some gs)
    (hgo : gs.Goes (MG w) A.in1 R Y n (.send va) (s.setGen g .running))
    (hR : ∀ x s1, R n (s.setGen g .running) x s1 → x = .ok (.ret .none) ∧ ∀ h' e, Heap.NewExc s1.heap h' e "StopIteration" → E (.ref e) { s1.setGen g .finished with heap := h' })
    (hY : ∀ v s1 gs', gs'.bare = true → Y (n - 1) (s.setGen g .running) v s1 (fun r' s'' => match n with | 0 => False | m + 1 => gs'.Goes (MG w) A.in1 R Y m r' s'') → Q v (s1.setGen g gs')) :
    wpAny (MG w) A (call (.builtin "generator.send") [.ref ga, va]) Q E s := by
  refine wpAny_call_entry slot_gen_send hG.typeIs entry_gen_send ?_ (args_gen_send _ _)
  show wpAny _ A.in1 (Builtin.Generator.genWake (.ref ga) (.send va)) _ _ s
  unfold Builtin.Generator.genWake
  refine wpAny_bind (wpAny_holding (wpAny_genNumber hG (wpAny_bind (wpAny_genState hgs ?_))))
  cases gs with
  | running => exact hgo.elim
  | finished => exact hgo.elim
  | _ =>
    refine wpAny_bind (wpAny_roomToWake hl hroom ?_)
    show wpAny _ A.in1 (.resume g (.send va) [] _) _ _ s
    refine wpAny_resumeQ hgs hgo (fun x s₁ hx => ?_) (fun v s₁ gs' hb hv => ?_)
    · obtain ⟨rfl, hp⟩ := hR x s₁ hx
      show wpAny _ A.in1 (newExc (.type "StopIteration") [] >>= fun e => (raiseNew e : Sem Unit) >>= _) _ _ _
      exact stop_exc hh fun h' e ne => hp h' e ne
    · exact wpAny_pure ⟨v, rfl, hY v s₁ gs' hb hv⟩
end
theorem drive_go {w : World} {hb h00 : Heap} {A : Around} {env : Env} {c : Code} {R' : Result → Shared → Prop} {s : Shared} {Av : Addr → Prop} {outer : List Env} {v : Value} {u : Tm} {gs : GenState} {g n m : Nat} {Lg L st : Addr} {rest : Str → Option Value}
    (fit : Fits A 90) (hfr : A.frames = some outer) (hf : env.frame = some L) (hk : env.scope.kind ≠ .module) (hm : m ≤ 50) (F : Fr hb L s.heap (dm st .none .none rest)) (hst : s.heap.get? st = some (lstObj [v] n))
    (x : Ext h00 s.heap) (nL : h00.get? L = none) (nst : h00.get? st = none) (FF : h00.FunFrames hb outer) (hF : ∀ a ∈ frs outer, Av a) (hav : Have Av h00) (gf : GF w hb m Av u v gs g Lg h00) (hg : s.gens[g]? = some gs)
    (T : Turn ⟨w, hb, (A.deeper env).in1, env :: outer, fun a => a = L ∨ a = st⟩ L st (codeAny (MG w) (A.deeper env) c R'))
    (fin : ∀ s' r rest' n', s'.heap.Ns L (dm st r r rest') → s'.heap.get? st = some (lstObj [] n') → Ext hb s'.heap → (∀ b o, h00.get? b = some o → b ≠ Lg → (b ∉ frs outer → s'.heap.get? b = some o) ∧ (b ∈ frs outer → ∃ sl, s'.heap.get? b = some { o with slots := sl })) →
      R (At hb s'.heap Av) r u → Same s s' → GK g s.gens s'.gens → codeAny (MG w) (A.deeper env) c R' s') : codeAny (MG w) (A.deeper env) c R' s := by
  have O : Own hb env L := ⟨hf, hk, F.above⟩
  have ef : frs (env :: outer) = L :: frs outer := O.frs
  have wf : GCtx.Wf ⟨w, hb, (A.deeper env).in1, env :: outer, fun a => a = L ∨ a = st⟩ := ⟨Fits.in1 (Fits.go fit (by omega)), by show A.frames.map _ = _; rw [hfr]; rfl⟩
  have ffs : s.heap.FunFrames hb outer := FF.of_keeps fun b o e _ => ⟨o, x b o e, rfl⟩
  have hF' : ∀ a ∈ frs (env :: outer), Av a ∨ a = L ∨ a = st := fun a ha => by
    rw [ef] at ha
    rcases List.mem_cons.mp ha with e | ha
    · exact .inr (.inl e)
    · exact .inl (hF a ha)
  have g0 := gf _ _ _ (fun a => Av a ∨ a = L ∨ a = st) wf ⟨fun _ h => .inl h, (fun a o h e => by
    rcases h with h | h | h
    · exact h
    · rw [h, nL] at e; cases e
    · rw [h, nst] at e; cases e), fun _ h => .inr h, hF'⟩
  have g1 := g0.kpA fun b o e _ => x b o e
  obtain ⟨oL, _, _, eL, _⟩ := id F.ns
  have tL : ∀ a, (a = L ∨ a = st) → ∃ o, s.heap.get? a = some o := fun a h => by
    rcases h with rfl | rfl
    · exact ⟨oL, eL⟩
    · exact ⟨_, hst⟩
  refine drive T m s [] .none rest (by simp; omega) ⟨⟨tL, O.frames F ffs, F.keep⟩, F.ns, n, hst⟩ g1 (fun _ h => .inr h) hF' (fun a h => ?_) hg fun s' r rest' ds k r' sm gk => ?_
  · rcases h with h | h
    · obtain ⟨o, e⟩ := hav a h
      exact ⟨o, x _ _ e⟩
    · exact tL a h
  · obtain ⟨ok', ns', n', e'⟩ := ds
    refine fin s' r rest' n' ns' e' ok'.ext (fun b o e hb => ?_) (r'.mono fun a o y => ⟨y.1, y.2.1, fun z => y.2.2 (.inl z)⟩) sm gk
    have q := k b o (x b o e) (fun t => by
      rcases t with t | t
      · rw [t, nL] at e; cases e
      · rw [t, nst] at e; cases e) fun z => hb (List.mem_singleton.mp z)
    have nbL : b ≠ L := fun t => by rw [t, nL] at e; cases e
    refine ⟨fun z => q.1 fun z' => ?_, fun z => q.2 ?_⟩
    · rw [show frs _ = _ from ef] at z'
      exact (List.mem_cons.mp z').elim nbL z
    · rw [show frs _ = _ from ef]
      exact .tail _ z
end Mine
namespace Mine
theorem plain_gen : PlainAttrs "generator" :=
  ⟨⟨"object.__getattribute__", by rw [typeLookup_type, builtinLookup_eq_fast]; kernel_rfl, by decide +kernel⟩, by rw [typeLookup_type, builtinLookup_eq_fast]; kernel_rfl⟩
section
variable {w : World} {hb h h' : Heap} {A1 : Around} {env : Env} {outer : List Env} {L st : Addr} {m : Str → Option Value} {o1 : Obj} {D : List (Addr × Obj)}
/-- a stretch of the driver by which the list and its own frame alone turn -/
theorem drv_keep (okk : OKs ⟨w, hb, A1, env :: outer, fun a => a = L ∨ a = st⟩ h) (F : Fr hb L h' m) (N : News hb L h' ((st, o1) :: D)) (hD : ∀ p ∈ allX hb h [L, st], p ∈ D) (hf : env.frame = some L) (nLo : L ∉ frs outer) (nso : st ∉ frs outer) :
    Kp ⟨w, hb, A1, env :: outer, fun a => a = L ∨ a = st⟩ [] h h' ∧ OKs ⟨w, hb, A1, env :: outer, fun a => a = L ∨ a = st⟩ h' := by
  have keep : ∀ b o, b ≠ L → b ≠ st → h.get? b = some o → h'.get? b = some o := fun b o n1 n2 e => by
    cases q : hb.get? b with
    | none => exact (N _ (.tail _ (hD _ (allX_mem.mpr ⟨q, e, fun z => (List.mem_cons.mp z).elim n1 fun z => n2 (List.mem_singleton.mp z)⟩)))).1
    | some o' =>
      have z := okk.ext b o' q
      rw [e] at z
      cases z
      exact F.keep b _ q
  refine ⟨fun b o e t _ => ?_, fun a t => ?_, ?_, F.keep⟩
  · have z := keep b o (fun q => t (.inl q)) (fun q => t (.inr q)) e
    exact ⟨fun _ => z, fun _ => ⟨o.slots, z⟩⟩
  · rcases t with rfl | rfl
    · obtain ⟨o, _, _, e, _⟩ := F.ns
      exact ⟨o, e⟩
    · exact ⟨_, (N _ (.head _)).1⟩
  · obtain ⟨hk, _, hr⟩ := okk.ff
    have O : Own hb env L := ⟨hf, hk, F.above⟩
    exact O.frames F (FunFrames.on hr fun b hm o e => keep b o (fun q => nLo (q ▸ hm)) (fun q => nso (q ▸ hm)) e)
end
/-- any datum can be laid into a grown heap -/
theorem rep {hb : Heap} : ∀ (u : Tm) (h : Heap) (Av : Addr → Prop), Ext hb h → Have Av h → ∃ h' r, Ext h h' ∧ R (At hb h' Av) r u := by
  have new : ∀ (h : Heap) (Av : Addr → Prop) (o : Obj), o.isFreed = false → Ext hb h → Have Av h → Ext h (h.push o) ∧ At hb (h.push o) Av h.objs.size o := fun h Av o hf X hv =>
    ⟨fun _ _ e => Heap.get?_push_of_some _ e, Heap.get?_push_size _ hf, (by
      cases q : hb.get? h.objs.size with
      | none => rfl
      | some o => exact absurd (Heap.lt_size (X _ _ q)) (Nat.lt_irrefl _)), fun z => by
      obtain ⟨o, e⟩ := hv _ z
      exact absurd (Heap.lt_size e) (Nat.lt_irrefl _)⟩
  have two : ∀ (a b : Tm) (mk : Value → Value → Obj) (_ : ∀ v w, (mk v w).isFreed = false) (t : Tm) (_ : ∀ P x v w, P x (mk v w) → R P v a → R P w b → R P (.ref x) t),
      (∀ (h : Heap) (Av : Addr → Prop), Ext hb h → Have Av h → ∃ h' r, Ext h h' ∧ R (At hb h' Av) r a) → (∀ (h : Heap) (Av : Addr → Prop), Ext hb h → Have Av h → ∃ h' r, Ext h h' ∧ R (At hb h' Av) r b) →
      ∀ (h : Heap) (Av : Addr → Prop), Ext hb h → Have Av h → ∃ h' r, Ext h h' ∧ R (At hb h' Av) r t := fun a b mk hfr t con ia ib h Av X hv => by
    obtain ⟨h1, r1, x1, p1⟩ := ia h Av X hv
    have hv1 : Have Av h1 := fun a z => by obtain ⟨o, e⟩ := hv a z; exact ⟨o, x1 _ _ e⟩
    obtain ⟨h2, r2, x2, p2⟩ := ib h1 Av (X.trans x1) hv1
    have hv2 : Have Av h2 := fun a z => by obtain ⟨o, e⟩ := hv1 a z; exact ⟨o, x2 _ _ e⟩
    obtain ⟨x3, p3⟩ := new h2 Av (mk r1 r2) (hfr _ _) ((X.trans x1).trans x2) hv2
    exact ⟨_, _, (x1.trans x2).trans x3, con _ _ _ _ p3 (p1.mono fun _ _ => At.ext (x2.trans x3)) (p2.mono fun _ _ => At.ext x3)⟩
  intro u
  induction u with
  | int i => exact fun h Av X hv => ⟨h, .int i 0, Ext.refl h, .int i 0⟩
  | var k =>
    intro h Av X hv
    obtain ⟨x1, p1⟩ := new h Av (tokDict 0 0 k 0 0) rfl X hv
    have hv1 : Have Av _ := fun a z => by obtain ⟨o, e⟩ := hv a z; exact ⟨o, x1 _ _ e⟩
    obtain ⟨x2, p2⟩ := new _ Av (varObj h.objs.size) rfl (X.trans x1) hv1
    exact ⟨_, _, x1.trans x2, .var p2 (At.ext x2 p1)⟩
  | tup2 a b ia ib => exact two a b (fun v w => tupObj [v, w] 0) (fun _ _ => rfl) _ (fun P x v w p q r => .tup2 p q r) ia ib
  | tup3 a b ia ib => exact two a b (fun v w => tupObj [v, .int 0 0, w] 0) (fun _ _ => rfl) _ (fun P x v w p q r => .tup3 p q r) ia ib
  | lst a b ia ib => exact two a b (fun v w => lstObj [v, w] 0) (fun _ _ => rfl) _ (fun P x v w p q r => .lst p q r) ia ib
  | dct a b ia ib => exact two a b (fun v w => dctObj 0 0 v w 0) (fun _ _ => rfl) _ (fun P x v w p q r => .dct p q r) ia ib
/-- at no yields left, none comes -/
theorem ys_none {C : GCtx} {child : ChildSpec} {evs : List Ev} {hI : Heap} {Av : Addr → Prop} {Lg : Addr} {i : Nat} {s₀ s : Shared} {v : Value} (y : YS C child evs hI Av Lg i s₀ v s fun _ _ => False) : False := by
  obtain ⟨kp, _, ok, _, d⟩ := y
  cases he : evs[i]? with
  | none => rw [he] at d; exact d
  | some e =>
    rw [he] at d
    cases e with
    | child u =>
      obtain ⟨Av1, gs, Lc, _, hv, _, _, _, _, k⟩ := d
      obtain ⟨h', r, x, p⟩ := rep u s.heap Av1 ok.ext hv
      refine k r { s with heap := h' } (fun b o e _ _ => ⟨fun _ => x _ _ e, fun _ => ⟨o.slots, x _ _ e⟩⟩) ⟨fun a t => by obtain ⟨o, e⟩ := ok.te a t; exact ⟨o, x _ _ e⟩, ok.ff.of_keeps fun b o e _ => ⟨o, x b o e, rfl⟩, ok.ext.trans x⟩ p
    | plain => exact d.2.2 s (Kp.refl _ _ _) ok
    | result u => exact d.2.2 s (Kp.refl _ _ _) ok
theorem drv_after {w : World} {hb h h' : Heap} {A1 : Around} {env : Env} {outer : List Env} {L st : Addr} {m : Str → Option Value} {o1 : Obj} (hf : env.frame = some L) (okk : OKs ⟨w, hb, A1, env :: outer, fun a => a = L ∨ a = st⟩ h') (kT : KpT ⟨w, hb, A1, env :: outer, fun a => a = L ∨ a = st⟩ h h') (ns : h.Ns L m) (bs : hb.objs.size ≤ L) (e : h.get? st = some o1) (stL : st ≠ L) (stb : hb.get? st = none) (nso : st ∉ frs outer) :
    Fr hb L h' m ∧ News hb L h' ((st, o1) :: allX hb h' [L, st]) := by
  have ef : frs (env :: outer) = L :: frs outer := by
    show List.filterMap _ _ = _
    rw [List.filterMap_cons, hf]
  obtain ⟨oL, es, ep, eL, r⟩ := ns
  obtain ⟨sl, eL'⟩ := (kT L oL (.inl rfl) eL).2 (by rw [show frs _ = _ from ef]; exact .head _)
  refine ⟨⟨⟨_, es, ep, eL', r⟩, okk.ext, bs⟩, fun p hp => ?_⟩
  rcases List.mem_cons.mp hp with rfl | hp
  · exact ⟨(kT st o1 (.inr rfl) e).1 (by rw [show frs _ = _ from ef]; exact fun q => (List.mem_cons.mp q).elim stL nso), stL, stb⟩
  · exact News_all (L := L) (X := [L, st]) (.head _) p hp
theorem turn_send {C : GCtx} {child : ChildSpec} {evs : List Ev} {Av : Addr → Prop} {Lg L st ga : Addr} {g i : Nat} {bs : List Value} {v va vo : Value} {gs : GenState} {G : Shared → Prop} {s' s : Shared} {A : Around} {Q E : Value → Shared → Prop} (hA : C.A = A.in1) (hh : A.handled = none) (hl : s.heap.NoLimit) (hroom : A.depth < recursionLimit) (hG : s.heap.IsGen ga g) (hgs : s'.gens[g]? = some gs)
    (go : ∀ s2 : Shared, s2.gens = s'.gens → Same s' s2 → Kp C [] s'.heap s2.heap → OKs C s2.heap → ∃ hI, gs.Goes (MG C.w) C.A (RS C hI Lg) (YS C child evs hI Av Lg) i (.send va) (s2.setGen g .running) ∧ NextG C child Av L st bs v va vo g hI evs Lg G s' i)
    (hgens : s.gens = s'.gens) (same : Same s' s) (kp : Kp C [] s'.heap s.heap) (ok : OKs C s.heap)
    (hend : ∀ hI s1 h9 e, i = 0 → NextG C child Av L st bs v va vo g hI evs Lg G s' i → Kp C [Lg] hI s1.heap → Same s' s1 → s1.heap = s.heap → s1.gens = s'.gens.setIfInBounds g .running → Heap.NewExc s1.heap h9 e "StopIteration" → E (.ref e) { s1.setGen g .finished with heap := h9 })
    (hyld : ∀ hI v1 s1 gs1 i' ev, i = i' + 1 → evs[i']? = some ev → gs1.bare = true → NextG C child Av L st bs v va vo g hI evs Lg G s' i → Kp C [Lg] hI s1.heap → Same s' s1 → OKs C s1.heap → KpT C s.heap s1.heap →
      YS C child evs hI Av Lg i' (s.setGen g .running) v1 s1 (fun r s5 => gs1.Goes (MG C.w) C.A (RS C hI Lg) (YS C child evs hI Av Lg) i' r s5) → Q v1 (s1.setGen g gs1)) :
    wpAny (MG C.w) A (call (.builtin "generator.send") [.ref ga, va]) Q E s := by
  obtain ⟨hI, hgo, nx⟩ := go s hgens same kp ok
  rw [hA] at hgo
  refine gen_send hh hl hroom hG (by rw [hgens]; exact hgs) hgo (fun x s1 hr => ?_) fun v1 s1 gs1 hb y => ?_
  · obtain ⟨rfl, h0, hg1, sm1, kp1, ok1, hp1⟩ := hr
    have hg1' : s1.gens = s'.gens.setIfInBounds g .running := by rw [hg1]; show s.gens.setIfInBounds g .running = _; rw [hgens]
    exact ⟨rfl, fun h9 e ne => hend hI s1 h9 e h0 nx kp1 ⟨sm1.1.trans same.1, sm1.2.trans same.2⟩ hp1 hg1' ne⟩
  · cases i with
    | zero => exact (ys_none y).elim
    | succ i' =>
      have y' := y
      obtain ⟨kp1, sm1, ok1, kT1, d⟩ := y
      cases he : evs[i']? with
      | none =>
        have d' : (match evs[i']? with | some (.child u) => _ | some .plain => _ | some (.result u) => _ | none => False) := d
        rw [he] at d'
        exact d'.elim
      | some ev =>
        rw [← hA] at y'
        exact hyld hI v1 s1 gs1 i' ev rfl he hb nx kp1 ⟨sm1.1.trans same.1, sm1.2.trans same.2⟩ ok1 kT1 y'
theorem dm_c {st : Addr} {va vo a b x : Value} {rest : Str → Option Value} : (fun y => if y = Str.ofString "z_args" then some a else if y = Str.ofString "z_out" then some b else if y = Str.ofString "z" then some x else dm st va vo rest y) = dm st a b fun y => if y = Str.ofString "z" then some x else rest y := by
  funext y
  unfold dm
  by_cases h1 : y = Str.ofString "stack"
  · subst h1; rfl
  by_cases h2 : y = Str.ofString "z_args"
  · subst h2; rfl
  by_cases h3 : y = Str.ofString "z_out"
  · subst h3; rfl
  by_cases h4 : y = Str.ofString "res_filter"
  · subst h4; rfl
  simp only [if_neg h1, if_neg h2, if_neg h3, if_neg h4]
theorem dm_p {st : Addr} {va vo a x : Value} {rest : Str → Option Value} : (fun y => if y = Str.ofString "_" then some a else if y = Str.ofString "z" then some x else dm st va vo rest y) = dm st va vo fun y => if y = Str.ofString "_" then some a else if y = Str.ofString "z" then some x else rest y := by
  funext y
  unfold dm
  by_cases h1 : y = Str.ofString "stack"
  · subst h1; rfl
  by_cases h2 : y = Str.ofString "z_args"
  · subst h2; rfl
  by_cases h3 : y = Str.ofString "z_out"
  · subst h3; rfl
  by_cases h4 : y = Str.ofString "res_filter"
  · subst h4; rfl
  simp only [if_neg h1, if_neg h2, if_neg h3, if_neg h4]
end Mine
end
theorem Mine.flush46 : True ∧ True := by
  w_top off
  try (fail_if_success walk1)
  exact ⟨trivial, trivial⟩
section
open PySem PySem.W PyProof.Rows PySem.Spec PySem.Calls PySem.W.X
set_option maxRecDepth 100000
set_option maxHeartbeats 2000000
namespace Mine
local macro_rules | `(tactic| k_mem) => `(tactic| first | exact List.Mem.head _ | assumption | exact Held.mem (by assumption) | (refine' List.Mem.tail _ ?_; k_mem))
local macro_rules | `(tactic| walk_at "call builtin:isinstance") => `(tactic| (refine wpAny_A0 (n := 0) (Fits.go (by assumption) (by omega)) ?_; first
  | (refine isi_tup_Var (Frag.In.keeps (by assumption) (Fr.keep (by assumption))) _ _ _ (News.get (by assumption) (by k_mem)) _ _ (fun t9 => ?_))
  | (refine isi_tup_Tup (Frag.In.keeps (by assumption) (Fr.keep (by assumption))) _ _ _ (News.get (by assumption) (by k_mem)) _ _ (fun t9 => ?_))
  | (refine isi_lst_Var (Frag.In.keeps (by assumption) (Fr.keep (by assumption))) _ _ _ (News.get (by assumption) (by k_mem)) _ _ (fun t9 => ?_))
  | (refine isi_lst_Tup (Frag.In.keeps (by assumption) (Fr.keep (by assumption))) _ _ _ (News.get (by assumption) (by k_mem)) _ _ (fun t9 => ?_))
  | (refine isi_lst_Lst (Frag.In.keeps (by assumption) (Fr.keep (by assumption))) _ _ _ (News.get (by assumption) (by k_mem)) _ _ (fun t9 => ?_))
  | (refine isi_dct_Var (Frag.In.keeps (by assumption) (Fr.keep (by assumption))) _ _ _ (News.get (by assumption) (by k_mem)) _ _ (fun t9 => ?_))
  | (refine isi_dct_Tup (Frag.In.keeps (by assumption) (Fr.keep (by assumption))) _ _ _ (News.get (by assumption) (by k_mem)) _ _ (fun t9 => ?_))
  | (refine isi_dct_Lst (Frag.In.keeps (by assumption) (Fr.keep (by assumption))) _ _ _ (News.get (by assumption) (by k_mem)) _ _ (fun t9 => ?_))
  | (refine isi_dct_Dct (Frag.In.keeps (by assumption) (Fr.keep (by assumption))) _ _ _ (News.get (by assumption) (by k_mem)) _ _ (fun t9 => ?_))
  | (refine isi_var_Var (Frag.In.keeps (by assumption) (Fr.keep (by assumption))) _ _ (News.get (by assumption) (by k_mem)) _ _ (fun t9 => ?_))
  | (refine isi_int_Var (Frag.In.keeps (by assumption) (Fr.keep (by assumption))) _ _ _ _ (fun t9 => ?_))
  | (refine isi_int_Tup (Frag.In.keeps (by assumption) (Fr.keep (by assumption))) _ _ _ _ (fun t9 => ?_))
  | (refine isi_int_Lst (Frag.In.keeps (by assumption) (Fr.keep (by assumption))) _ _ _ _ (fun t9 => ?_))
  | (refine isi_int_Dct (Frag.In.keeps (by assumption) (Fr.keep (by assumption))) _ _ _ _ (fun t9 => ?_))))
local macro_rules | `(tactic| walk_at "UnrEndW cons") => `(tactic| (refine unr_end1 (by assumption) (by assumption) (by assumption) (And.intro (.head _) trivial) ?_))
local macro_rules | `(tactic| walk_at "call builtin:isinstance") => `(tactic| (refine wpAny_A0 (n := 0) (Fits.go (by assumption) (by omega)) ?_; first
  | (refine isi_gen_Gen (Frag.In.keeps (by assumption) (Fr.keep (by assumption))) _ _ (News.get (by assumption) (by k_mem)) _ _ (fun t9 => ?_))))
local macro_rules | `(tactic| walk_at "exec While Name cons nil") => `(tactic| (refine wpAny_While ?_; walk_say "WHILE"))
theorem isi_RP {w : World} {hb : Heap} {s : Shared} {L : Addr} {Av : Addr → Prop} {q : Addr × Obj} {D : List (Addr × Obj)} {v : Value} {t : Tm} (X : (hd.heap_39 w.params).In s.heap) (N : News hb L s.heap (q :: D)) (r : R (PD D Av) v t) (Q E : Value → Shared → Prop) (hQ : ∀ tk, Q (.bool false) { s with toks := tk }) :
    wpAny (model PySem.Challenge.rw_fe0177_01.prog w) A0 (call (.builtin "isinstance") [v, .ref 38]) Q E s := by
  have g : ∀ {a o}, PD D Av a o → s.heap.get? a = some o := fun y => (N _ (.tail _ y.1)).1
  cases r with
  | int i tk => exact isi_int_Gen X i tk Q E hQ
  | var a b => exact isi_var_Gen X _ _ (g a) Q E hQ
  | tup2 a _ _ => exact isi_tup_Gen X _ _ _ (g a) Q E hQ
  | tup3 a _ _ => exact isi_tup_Gen X _ _ _ (g a) Q E hQ
  | lst a _ _ => exact isi_lst_Gen X _ _ _ (g a) Q E hQ
  | dct a _ _ => exact isi_dct_Gen X _ _ _ (g a) Q E hQ
local macro_rules | `(tactic| walk_at "call builtin:isinstance") => `(tactic| (refine wpAny_A0 (n := 0) (Fits.go (by assumption) (by omega)) ?_; first
  | (refine isi_RP (Frag.In.keeps (by assumption) (Fr.keep (by assumption))) (by assumption) (by assumption) _ _ (fun t9 => ?_))
  | (refine isi_sen_Gen (Frag.In.keeps (by assumption) (Fr.keep (by assumption))) _ _ (fun t9 => ?_))
  | (refine isi_gen_Gen (Frag.In.keeps (by assumption) (Fr.keep (by assumption))) _ _ (News.get (by assumption) (by k_mem)) _ _ (fun t9 => ?_))))
theorem boot_si : bootBuiltins "StopIteration" = some (.type "StopIteration") := by decide +kernel
local macro_rules | `(tactic| walk_at "eval Name") => `(tactic| ((with_reducible show wpAny _ _ (eval (Expr.Name (Str.ofString "StopIteration") _) _) _ _ _); (with_reducible rename Fr _ _ _ _ => kF); with_unfolding_all refine guard_global (by rfl) ?_; k_dflt (refine' name_B kF ?k1 ?k2 ?k3 ?k4 ?k5 ?_; (case k1 => k_asm); (case k2 => k_asm); (case k3 => k_is); (case k4 => exact boot_si); (case k5 => decide); k_whole)))
local macro_rules | `(tactic| walk_at "call builtin:list.append") => `(tactic| (refine st_append (by assumption) (by assumption) (by assumption) (by simp only [List.length_append, List.length_cons, List.length_nil]; omega) ?_; intro h9 n9 F9 N9))
local macro_rules | `(tactic| walk_at "call builtin:list.pop") => `(tactic| (refine st_pop (by assumption) (by assumption) (by first | assumption | (intro _ h; exact nomatch h)) (by omega) ?_; intro h9 n9 F9 N9))
theorem dm_pF {hb h : Heap} {L st : Addr} {va vo a x : Value} {rest : Str → Option Value} (F : Fr hb L h fun y => if y = Str.ofString "_" then some a else if y = Str.ofString "z" then some x else dm st va vo rest y) : Fr hb L h (dm st va vo fun y => if y = Str.ofString "_" then some a else if y = Str.ofString "z" then some x else rest y) := by
  rw [dm_p] at F
  exact F
theorem Kp.after {C : GCtx} {X S : List Addr} {a b c : Heap} (y : Kp C X b c) (x : ExtS S a b) (hS : frs C.outer = S) : Kp C X a c := by
  subst hS
  exact Kp.trans (Kp.of x) y
theorem dm_cF {hb h : Heap} {L st : Addr} {va vo a b x : Value} {rest : Str → Option Value} (F : Fr hb L h fun y => if y = Str.ofString "z_args" then some a else if y = Str.ofString "z_out" then some b else if y = Str.ofString "z" then some x else dm st va vo rest y) : Fr hb L h (dm st a b fun y => if y = Str.ofString "z" then some x else rest y) := by
  rw [dm_c] at F
  exact F
theorem sub_si1 : isSubtype (.type "StopIteration") (.type "BaseException") = pure true := by rw [isSubtype_type]; kernel_rfl
theorem sub_si2 : isSubtype (.type ((Manifest.find? "StopIteration").elim "type" fun x => x.metatype)) (.type "tuple") = pure false := by
  rw [find?_eq_fast, isSubtype_type]; kernel_rfl
theorem sub_si3 : isSubtype (.type "StopIteration") (.type "StopIteration") = pure true := by rw [isSubtype_type]; kernel_rfl
theorem Tr.typeIs {base h₀ h : Heap} {l : List Env} {e : Addr} {cn : String} {fl : Value} (T : Tr base h₀ l e (.type cn) fl h) {g : Array GenState} {d : Drawn} {tk : Nat} {os : OsState} : Shared.TypeIs ⟨h, g, d, tk, os⟩ (.ref e) cn := by
  obtain ⟨a0, oe, vs, Tb, oT, ts, he, hc, _⟩ := T.tr
  exact ⟨oe, he, hc.1⟩
theorem dm_0 {st : Addr} {x : Value} : (fun y => if y = Str.ofString "z_out" then some Value.none else if y = Str.ofString "z_args" then some Value.none else if y = Str.ofString "stack" then some (Value.ref st) else List.lookup y [(Str.ofString "z", x), (Str.ofString "res_filter", Value.none)].reverse) =
    dm st .none .none fun y => if y = Str.ofString "z" then some x else none := by
  funext y
  unfold dm
  by_cases h1 : y = Str.ofString "stack"
  · subst h1; rfl
  by_cases h2 : y = Str.ofString "z_args"
  · subst h2; rfl
  by_cases h3 : y = Str.ofString "z_out"
  · subst h3; rfl
  by_cases h4 : y = Str.ofString "res_filter"
  · subst h4; rfl
  by_cases h5 : y = Str.ofString "z"
  · subst h5; rfl
  simp only [if_neg h1, if_neg h2, if_neg h3, if_neg h4, if_neg h5]
  simp [List.lookup, beq_eq_false_iff_ne.mpr h4, beq_eq_false_iff_ne.mpr h5]
theorem stream_new {w : World} {hb : Heap} (B : Base w hb) {m : Nat} (hm : m ≤ 50) {A : Around} {s : Shared} {Av : Addr → Prop} {outer : List Env} {v : Value} {ga : Addr} {u : Tm} {gs : GenState} {g : Nat} {Lg : Addr} : ∀ (fit : Fits A 90) (hfr : A.frames = some outer) (FF : s.heap.FunFrames hb outer) (hF : ∀ a ∈ frs outer, Av a) (X : Ext hb s.heap) (hav : Have Av s.heap) (gi : GenI (At hb s.heap Av) v (.ref ga)) (hg : s.gens[g]? = some gs) (gf : GF w hb m Av u v gs g Lg s.heap) (Q E : Value → Shared → Prop)
    (hQ : ∀ r h' tk gens', (∀ b o, s.heap.get? b = some o → b ≠ Lg → (b ∉ frs outer → h'.get? b = some o) ∧ (b ∈ frs outer → ∃ sl, h'.get? b = some { o with slots := sl })) → R (At hb h' Av) r u → GK g s.gens gens' → Q r { s with heap := h', toks := tk, gens := gens' }),
    wpAny (model PySem.Challenge.rw_fe0177_01.prog w) A (call (.ref 206) [v]) Q E s := by
  have KX := B.kx
  revert KX
  k_fill
  intro KX fit hfr FF hF X hav gi hg gf Q E hQ
  obtain ⟨mean, mg, mb, T⟩ := B.top
  have gi0 := gi
  cases gi with
  | @mk x dx hs0 t0 ep _ g1 g2 =>
  refine wpAny_call ?_
  k_dflt (refine' enter (binds := [(Str.ofString "z", .ref x), (Str.ofString "res_filter", .none)]) B X hav ?k6 ?k7 fit.room ?k9 ?kB ?c2 ?c3 ?c4 ?c5 ?_; (case k6 => k_is); (case k7 => k_is); (case k9 => exact binds_K (B.kx.keeps X) rfl (by k_is) rfl rfl rfl); (case c5 => decide); (case kB => exact locs rfl); (case c2 => exact rfl); (case c3 => exact rfl); (case c4 => exact rfl); k_whole)
  intro L h₁ D F N l1 W
  dsimp only
  k_fold
  have g1' := (W.pd g1).1
  have g2' := (W.pd g2).1
  k_steps
  rename_i t9 st _ lst _ Dt ht Ft Nt lt
  refine unpackN_ Ft Nt ⟨_, (Nt _ (.head _)).1, rfl, _, rfl⟩ (Fits.handled (Fits.go (m := 1) fit (by omega))) rfl rfl ?_
  clear Ft Nt
  intro h6 F6 N6
  k_steps
  rename_i h5 F5 N5
  replace F5 : Fr hb L h5 (dm st .none .none fun y => if y = Str.ofString "z" then some (.ref x) else none) := by have := F5; rw [dm_0] at this; exact this
  replace N5 : News hb L h5 ((Dt, tupObj [.none, .none] 0) :: (st, lstObj [.ref x] 1) :: D) := N5
  have bsL : hb.objs.size ≤ L := F5.above
  have x5 : Ext s.heap h5 := Wk.done (Wk.cons (Wk.cons W)) F5 N5
  have nst : s.heap.get? st = none := by
    cases q : s.heap.get? st with
    | none => rfl
    | some o => exact absurd (lst _ (W.all _ (allX_mem.mpr ⟨(N5 _ (.tail _ (.head _))).2.2, q, List.not_mem_nil⟩))) (Nat.lt_irrefl _)
  have stL : st ≠ L := (N5 _ (.tail _ (.head _))).2.1
  have stb : hb.get? st = none := (N5 _ (.tail _ (.head _))).2.2
  have hst5 := (N5 _ (.tail _ (.head _))).1
  have woff := W.off
  have nLo : L ∉ frs outer := fun hm => by
    obtain ⟨_, o, e, _⟩ := Heap.FunFrames.mem FF hm
    rw [woff] at e; cases e
  have nso : st ∉ frs outer := fun hm => by
    obtain ⟨_, o, e, _⟩ := Heap.FunFrames.mem FF hm
    rw [nst] at e; cases e
  clear N5 lt
  refine drive_go (h00 := s.heap) (v := .ref x) fit hfr rfl (fun q => nomatch q) hm F5 hst5 x5 woff nst FF hF hav gf hg ?T ?fin
  case fin =>
    intro s' r rest' n' ns' e' X' kp r' sm gk
    obtain ⟨h7, gens7, dr7, tk7, os7⟩ := s'
    obtain ⟨rfl, rfl⟩ := sm
    have F7 : Fr hb L h7 (dm st r r rest') := ⟨ns', X', bsL⟩
    have N7 : News hb L h7 [(st, lstObj [] n')] := fun p hp => by rw [List.mem_singleton.mp hp]; exact ⟨e', stL, stb⟩
    clear F5
    refine while_turn ?_
    k_steps
    exact hQ r h7 _ gens7 kp r' gk
  case T =>
    clear F5 hst5 x5 gf hg gi0 g1 g2 g1' g2'
    intro child evs Av' Lg' i bs v' ga' g' nm qn va vo rest gs' s' hlen cm cg ds gi' atg hT hF' hg' go
    obtain ⟨okk, ns', nl, el⟩ := ds
    have F7 : Fr hb L s'.heap (dm st va vo rest) := ⟨ns', okk.ext, bsL⟩
    have N7 : News hb L s'.heap ((st, lstObj (bs ++ [v']) nl) :: allX hb s'.heap [L, st]) := fun p hp => by
      rcases List.mem_cons.mp hp with rfl | hp
      · exact ⟨el, stL, stb⟩
      · exact News_all (L := L) (X := [L, st]) (.head _) p hp
    have off7 : ∀ p ∈ allX hb s'.heap [L, st], p.1 ≠ st := fun p hp q => (allX_mem.mp hp).2.2 (q ▸ .tail _ (.head _))
    have inD : ∀ a o, At hb s'.heap Av' a o → (a, o) ∈ allX hb s'.heap [L, st] := fun a o y => allX_mem.mpr ⟨y.2.1, y.1, fun q => y.2.2 (hT a (by simpa using q))⟩
    have atg7 := inD _ _ atg
    cases gi' with
    | @mk x7 dx7 hs7 t7 ep7 _ q1 q2 =>
    have q1' := inD _ _ q1
    have q2' := inD _ _ q2
    generalize hD : allX hb s'.heap [L, st] = D7 at N7 off7 q1' q2' atg7
    refine while_turn ?_
    k_steps
    refine st_truthy N7 (by simp only [List.length_append, List.length_cons, List.length_nil]; omega) fun tk8 => ?_
    rw [show (!(bs ++ [Value.ref x7]).isEmpty) = true by cases bs <;> rfl]
    k_steps
    refine' st_last ?N ?h ?hs ?ht
    case N => exact N7
    case hs => with_unfolding_all rfl
    case ht => intro _; with_unfolding_all rfl
    k_steps
    rename_i h8 F8 N8
    refine getMethod_builtin (T := "generator") ⟨_, (N8 _ (.tail _ atg7)).1, rfl⟩ plain_gen slot_gen_send type_gen_send (fun a e => by cases e; exact ⟨_, (N8 _ (.tail _ atg7)).1, rfl⟩) ?_
    k_steps
    have dk := drv_keep okk F8 N8 (fun p hp => hD ▸ hp) rfl nLo nso
    refine turn_send (C := ⟨w, hb, _, _ :: outer, fun a => a = L ∨ a = st⟩) rfl (Fits.handled (Fits.go (m := 1) fit (by omega))) (T.nolimit.keeps F8.keep) (Fits.room (Fits.go (m := 1) fit (by omega))) ⟨_, nm, qn, (N8 _ (.tail _ atg7)).1, rfl, rfl, rfl⟩ hg' go rfl ⟨rfl, rfl⟩ dk.1 dk.2 (fun hI s1 h9 e i0 nx kp1 sm1 hp1 hg1 ne => ?_) fun hI v1 s1 gs1 i' ev hi he hb1 nx kp1 sm1 ok1 kT1 y => ?_
    · clear go
      obtain ⟨hh1, gg1, dd1, tt1, oo1⟩ := s1
      obtain rfl : hh1 = h8 := hp1
      have hg1' : gg1 = s'.gens.setIfInBounds g' .running := hg1
      clear hg1
      subst hg1'
      have FFh : hh1.FunFrames hb outer := dk.2.ff.2.2
      refine un_go (outer := outer) ⟨rfl, fun q => (nomatch q), F8.above⟩ F8 ?hA FFh ne fun h2 T2 => ?_
      case hA => show A.frames.map _ = _; rw [hfr]; rfl
      refine Tr.flight T2 fun h3 T3 => ?_
      have x3 : ExtS (L :: frs outer) hh1 h3 := tr_x T3 rfl (fun q => nomatch q) F8 FFh
      have Sn : ∀ a ∈ L :: frs outer, hb.get? a = none := fun a ha => by
        rcases List.mem_cons.mp ha with rfl | ha
        · cases q : hb.get? a with
          | none => rfl
          | some o => exact absurd (Heap.lt_size q) (Nat.not_lt.mpr bsL)
        · exact FunFrames.none FFh ha
      have F3 := Fr.extS F8 x3 Sn
      have stS : st ∉ L :: frs outer := fun q => (List.mem_cons.mp q).elim stL nso
      have e8 := (N8 _ (.head _)).1
      have N3 : News hb L h3 [(st, lstObj (bs ++ [.ref x7]) nl)] := fun p hp => by
        rw [List.mem_singleton.mp hp]
        exact ⟨(x3 _ _ e8).1 stS, stL, stb⟩
      have ns8 := F8.ns
      clear F8 N8
      refine wpAny_handleBy_builtin (X := "StopIteration") (T := "StopIteration") (b := true) sub_si1 sub_si2 sub_si3 ?_
      k_steps
      · exact T3.typeIs
      · rename_i kF3
        refine Tr.flight T3 fun h4 T4 => ?_
        have x4 : ExtS (L :: frs outer) hh1 h4 := tr_x T4 rfl (fun q => nomatch q) (⟨ns8, dk.2.ext, bsL⟩ : Fr hb L hh1 _) FFh
        clear kF3 N3
        have F4 : Fr hb L h4 _ := Fr.extS ⟨ns8, dk.2.ext, bsL⟩ x4 Sn
        have N4 : News hb L h4 ((st, lstObj (bs ++ [.ref x7]) nl) :: allX hb h4 [L, st]) := fun p hp => by
          rcases List.mem_cons.mp hp with rfl | hp
          · exact ⟨(x4 _ _ e8).1 stS, stL, stb⟩
          · exact News_all (L := L) (X := [L, st]) (.head _) p hp
        have off4 : ∀ p ∈ allX hb h4 [L, st], p.1 ≠ st := fun p hp q => (allX_mem.mp hp).2.2 (q ▸ .tail _ (.head _))
        have ff4 := ExtS.frames x4 dk.2.ff
        have te4 : ∀ a, (a = L ∨ a = st) → ∃ o, h4.get? a = some o := fun a t => by
          rcases t with rfl | rfl
          · obtain ⟨o, _, _, q, _⟩ := F4.ns
            exact ⟨o, q⟩
          · exact ⟨_, (N4 _ (.head _)).1⟩
        have ex4 := F4.keep
        k_steps
        rename_i h12 F12 N12
        have dk2 := drv_keep ⟨te4, ff4, ex4⟩ F12 N12 (fun p hp => hp) rfl nLo nso
        have F13 := dm_pF F12
        have k84 := Kp.after dk2.1 x4 rfl
        exact nx.1 _ _ i0 ⟨dk2.2, F13.ns, _, (N12 _ (.head _)).1⟩ (kp1.trans (k84.mono fun _ h => nomatch h)) (dk.1.trans k84) ⟨sm1.1, sm1.2⟩ rfl
    · clear go
      obtain ⟨F9, N9⟩ := drv_after rfl ok1 kT1 F8.ns bsL (N8 _ (.head _)).1 stL stb nso
      have inD9 : ∀ a o, At hb s1.heap Av' a o → (a, o) ∈ allX hb s1.heap [L, st] := fun a o y => allX_mem.mpr ⟨y.2.1, y.1, fun q => y.2.2 (hT a (by simpa using q))⟩
      have off9 : ∀ p ∈ allX hb s1.heap [L, st], p.1 ≠ st := fun p hp q => (allX_mem.mp hp).2.2 (q ▸ .tail _ (.head _))
      generalize hD9 : allX hb s1.heap [L, st] = D9 at N9 off9 inD9
      clear F8 N8
      obtain ⟨_, _, _, _, d⟩ := y
      rw [he] at d
      cases ev with
      | result u1 =>
        obtain ⟨hg1, r1, kk⟩ := d
        have r1' : R (PD D9 Av') v1 u1 := r1.mono fun a o y => ⟨inD9 a o y, y.2.2⟩
        k_steps
        rename_i h10 F10 N10
        replace N10 : News hb L h10 ((st, lstObj (bs ++ [.ref x7]) nl) :: D9) := N10
        have dk2 := drv_keep ok1 F10 N10 (fun p hp => hD9 ▸ hp) rfl nLo nso
        have F11 := dm_cF F10
        exact nx.2 i' _ _ v1 gs1 _ hi he hb1 (kp1.trans (dk2.1.mono fun _ h => nomatch h)) ⟨sm1.1, sm1.2⟩ ⟨⟨⟨dk2.2, F11.ns, nl, (N10 _ (.head _)).1⟩, by show s1.gens.setIfInBounds g' gs1 = _; rw [hg1]; rfl, fun s5 k5 ok5 => kk s5 (dk2.1.trans k5) ok5⟩, r1.mono fun a o y => At.kp dk2.1 hT hF' (fun h => nomatch h) y⟩
      | plain =>
        obtain ⟨rfl, hg1, kk⟩ := d
        k_steps
        rename_i h10 F10 N10
        replace N10 : News hb L h10 ((st, lstObj (bs ++ [.ref x7]) nl) :: D9) := N10
        have dk2 := drv_keep ok1 F10 N10 (fun p hp => hD9 ▸ hp) rfl nLo nso
        have F11 := dm_cF F10
        exact nx.2 i' _ _ (.ref 198) gs1 _ hi he hb1 (kp1.trans (dk2.1.mono fun _ h => nomatch h)) ⟨sm1.1, sm1.2⟩ ⟨⟨dk2.2, F11.ns, nl, (N10 _ (.head _)).1⟩, by show s1.gens.setIfInBounds g' gs1 = _; rw [hg1]; rfl, fun s5 k5 ok5 => kk s5 (dk2.1.trans k5) ok5⟩
      | child u1 =>
        obtain ⟨Av1, gsc, Lc, up, hv1, nI, hg1, bc, ch, kk⟩ := d
        obtain ⟨gc, gic⟩ := cg _ _ _ _ _ _ _ ch
        cases gic with
        | @mk xc dxc hsc tc epc _ c1 c2 =>
        have c1' : (xc, instObj 38 dxc) ∈ D9 := inD9 xc _ ⟨c1.1, c1.2.1, fun z => c1.2.2 (up _ z)⟩
        k_steps
        rename_i h12 F12 N12'
        have N12 : News hb L h12 ((st, lstObj ((bs ++ [.ref x7]) ++ [.ref xc]) _) :: D9) := N12'
        have dk2 := drv_keep ok1 F12 N12 (fun p hp => hD9 ▸ hp) rfl nLo nso
        have F13 := dm_cF F12
        obtain ⟨n12, e12⟩ : ∃ n, h12.get? st = some (lstObj (bs ++ [.ref x7, .ref xc]) n) := ⟨_, by have := (N12 _ (.head _)).1; rw [List.append_assoc] at this; exact this⟩
        have ch' : child Av1 u1 (.ref xc) gsc s'.gens.size Lc s1.heap := by have := ch; simp only [Shared.setGen, Array.size_setIfInBounds] at this; exact this
        refine nx.2 i' _ _ (.ref xc) gs1 _ hi he hb1 (kp1.trans (dk2.1.mono fun _ h => nomatch h)) ⟨sm1.1, sm1.2⟩ ⟨⟨dk2.2, F13.ns, n12, e12⟩, Av1, gsc, Lc, up, fun a ha => ?_, nI, ?_, bc, cm _ _ _ _ _ _ _ _ ch' (fun b o e n => (dk2.1 b o e (fun t => n (up _ (hT b t))) fun h => nomatch h).1 fun f => n (up _ (hF' b f))), fun r s5 k5 ok5 r5 => kk r s5 ((dk2.1.mono fun _ h => nomatch h).trans k5) ok5 r5⟩
        · by_cases t : a = L ∨ a = st
          · exact dk2.2.te a t
          · obtain ⟨o, e⟩ := hv1 a ha
            obtain ⟨sl, e'⟩ := dk2.1.some e t fun h => nomatch h
            exact ⟨_, e'⟩
        · show s1.gens.setIfInBounds g' gs1 = _
          rw [hg1]
          rfl
end Mine
end
theorem Mine.flush47 : True ∧ True := by
  w_top off
  try (fail_if_success walk1)
  exact ⟨trivial, trivial⟩
section
open PySem PySem.W PyProof.Rows PySem.Spec PySem.Calls PySem.W.X
set_option maxRecDepth 100000
set_option maxHeartbeats 2000000
set_option linter.unusedVariables false
namespace Mine
theorem rv_done {s : Shared} {h' : Heap} {news : List (Addr × Obj)} {Q : Value → Shared → Prop} {v : Value} {tk : Nat} (hQ : ∀ h' tk, Ext s.heap h' → Q v { s with heap := h', toks := tk }) (D : Mem s.heap h' [] news) : Q v ⟨h', s.gens, s.drawn, tk, s.os⟩ := hQ h' tk (ext_of D)
local macro_rules | `(tactic| x_close) => `(tactic| (exact rv_done (by assumption) (by assumption)))
theorem stream_int {w : World} {s : Shared} : (hd.heap_39 w.params).In s.heap → ∀ (i : Int) (tk0 : Tok) (Q E : Value → Shared → Prop) (hQ : ∀ h' tk, Ext s.heap h' → Q (.int i tk0) { s with heap := h', toks := tk }),
   wpAny (model PySem.Challenge.rw_fe0177_01.prog w) A0 (call (.ref 206) [.int i tk0]) Q E s := by
  k_fill
  intro KX i tk0 Q E hQ
  x_run
/-- a contract of a call by which frames are marked and generators are made -/
def GRC (w : World) (hb : Heap) (f : Value) (args : List Value) (cost : Nat) (pre : (Addr → Obj → Prop) → Prop) (post : Value → (Addr → Obj → Prop) → Prop) : Prop :=
  ∀ (A : Around) (s : Shared) (Av : Addr → Prop) (outer : List Env), Fits A cost → A.frames = some outer → s.heap.FunFrames hb outer → (∀ a ∈ frs outer, Av a) → Ext hb s.heap → (∀ a, Av a → ∃ o, s.heap.get? a = some o) → pre (At hb s.heap Av) → ∀ (Q E : Value → Shared → Prop),
    (∀ v h' tk gens', ExtS (frs outer) s.heap h' → post v (At hb h' Av) → ((∀ x ∈ s.gens, x.bare = true) → ∀ x ∈ gens', x.bare = true) → Q v { s with heap := h', toks := tk, gens := gens' }) → wpAny (model PySem.Challenge.rw_fe0177_01.prog w) A (call f args) Q E s
theorem len_d {w : World} {A : Around} {E Q : Value → Shared → Prop} {s : Shared} {d : Addr} {es : Array DictEntry} {ep : Nat} (hd : (d == sysModules) = false) (ho : s.heap.get? d = some (dctO es ep)) (hfit : (es.size : Int) < 2 ^ 63) (h : ∀ t tk, Q (.int es.size t) { s with toks := tk }) : wpAny (MG w) A (call (.builtin "len") [.ref d]) Q E s := by
  have hT : s.TypeIs (.ref d) "dict" := ⟨_, ho, rfl⟩
  refine Calls.call_function_entry PySem.kind_len PySem.plain_len PySem.entry_len (PySem.args_len1 _) ?_
  unfold Builtin.«len»
  refine wpAny_bind (m := oneArg "len" _) (wpAny_pure ?_)
  refine wpAny_bind (m := callSpecial? (.ref d) (Str.ofString "__len__")) (wpAny_callSpecial?_slot (name := Str.ofString "__len__") hT PySem.F.slot_dict_len (wpAny_call_entry PySem.F.slot_dict_len hT PySem.F.entry_dict_len ?_ (PySem.F.args_dict_len_1 _)))
  show wpAny _ _ (dictSize d >>= _) _ _ s
  unfold dictSize
  refine wpAny_bind (wpAny_bind (wpAny_dictEntries ho rfl (wpAny_pure ?_)))
  show wpAny _ _ (Builtin.Dict.pendingCount d >>= _) _ _ s
  refine wpAny_bind (wpAny_pendingCount_other hd ?_)
  refine wpAny_ret_mkInt ?_
  rw [show ((es.size : Int) + ((0 : Nat) : Int)) = es.size by simp]
  refine wpAny_bind (wpAny_holding (wpAny_pure ?_))
  refine wpAny_bind (wpAny_letGo ?_)
  show wpAny _ _ (if ((es.size : Nat) : Int) < 0 then _ else _) _ _ _
  rw [if_neg (by omega)]
  show wpAny _ _ (if ((es.size : Nat) : Int) ≥ 2 ^ 63 then _ else _) _ _ _
  rw [if_neg (by omega)]
  exact wpAny_bind (wpAny_mkInt (wpAny_pure ⟨_, rfl, h _ _⟩))
theorem Ents.len {P : Addr → Obj → Prop} {σ : Sb} {ks : List Int} {es : List DictEntry} (e : Ents P σ ks es) : es.length = ks.length := by
  induction e with
  | nil => rfl
  | cons _ _ _ _ ih => simp [ih]
theorem ks_len : ∀ {ks : List Int}, ks.Nodup → (∀ k ∈ ks, 0 ≤ k ∧ k < 4) → ks.length ≤ 4 := by
  intro ks hn hr
  have h1 : (ks.map Int.toNat).Nodup := by
    rw [List.nodup_iff_pairwise_ne, List.pairwise_map]
    refine List.Pairwise.imp_of_mem ?_ (List.nodup_iff_pairwise_ne.mp hn)
    intro a b ha hb hab e
    have := hr a ha
    have := hr b hb
    omega
  have h2 : ∀ x ∈ ks.map Int.toNat, x < 4 := fun x hx => by
    obtain ⟨k, hk, rfl⟩ := List.mem_map.mp hx
    have := hr k hk
    omega
  have : (ks.map Int.toNat).length ≤ 4 := by
    have hs : List.Subset (ks.map Int.toNat) (List.range 4) := fun x hx => List.mem_range.mpr (h2 x hx)
    have := List.Nodup.length_le_of_subset h1 hs
    simpa using this
  simpa using this
theorem full_nil {σ : Sb} (h : ∀ k t, ¬ σ.Has k (some t)) {n : Nat} {t u : Tm} (f : Full σ n t u) : u = t := by
  induction f with
  | int _ _ => rfl
  | free _ => rfl
  | var hk _ _ => exact absurd hk (h _ _)
  | tup2 _ _ a b => rw [a, b]
  | tup3 _ _ a b => rw [a, b]
  | lst _ _ a b => rw [a, b]
  | dct _ _ a b => rw [a, b]
local macro_rules | `(tactic| k_mem) => `(tactic| first | exact List.Mem.head _ | assumption | exact Held.mem (by assumption) | (refine' List.Mem.tail _ ?_; k_mem))
local macro_rules | `(tactic| walk_at "call builtin:isinstance") => `(tactic| (refine wpAny_A0 (n := 0) (Fits.go (by assumption) (by omega)) ?_; first
  | (refine isi_tup_Var (Frag.In.keeps (by assumption) (Fr.keep (by assumption))) _ _ _ (News.get (by assumption) (by k_mem)) _ _ (fun t9 => ?_))
  | (refine isi_tup_Tup (Frag.In.keeps (by assumption) (Fr.keep (by assumption))) _ _ _ (News.get (by assumption) (by k_mem)) _ _ (fun t9 => ?_))
  | (refine isi_lst_Var (Frag.In.keeps (by assumption) (Fr.keep (by assumption))) _ _ _ (News.get (by assumption) (by k_mem)) _ _ (fun t9 => ?_))
  | (refine isi_lst_Tup (Frag.In.keeps (by assumption) (Fr.keep (by assumption))) _ _ _ (News.get (by assumption) (by k_mem)) _ _ (fun t9 => ?_))
  | (refine isi_lst_Lst (Frag.In.keeps (by assumption) (Fr.keep (by assumption))) _ _ _ (News.get (by assumption) (by k_mem)) _ _ (fun t9 => ?_))
  | (refine isi_dct_Var (Frag.In.keeps (by assumption) (Fr.keep (by assumption))) _ _ _ (News.get (by assumption) (by k_mem)) _ _ (fun t9 => ?_))
  | (refine isi_dct_Tup (Frag.In.keeps (by assumption) (Fr.keep (by assumption))) _ _ _ (News.get (by assumption) (by k_mem)) _ _ (fun t9 => ?_))
  | (refine isi_dct_Lst (Frag.In.keeps (by assumption) (Fr.keep (by assumption))) _ _ _ (News.get (by assumption) (by k_mem)) _ _ (fun t9 => ?_))
  | (refine isi_dct_Dct (Frag.In.keeps (by assumption) (Fr.keep (by assumption))) _ _ _ (News.get (by assumption) (by k_mem)) _ _ (fun t9 => ?_))
  | (refine isi_var_Var (Frag.In.keeps (by assumption) (Fr.keep (by assumption))) _ _ (News.get (by assumption) (by k_mem)) _ _ (fun t9 => ?_))
  | (refine isi_int_Var (Frag.In.keeps (by assumption) (Fr.keep (by assumption))) _ _ _ _ (fun t9 => ?_))
  | (refine isi_int_Tup (Frag.In.keeps (by assumption) (Fr.keep (by assumption))) _ _ _ _ (fun t9 => ?_))
  | (refine isi_int_Lst (Frag.In.keeps (by assumption) (Fr.keep (by assumption))) _ _ _ _ (fun t9 => ?_))
  | (refine isi_int_Dct (Frag.In.keeps (by assumption) (Fr.keep (by assumption))) _ _ _ _ (fun t9 => ?_))))
local macro_rules | `(tactic| walk_at "UnrEndW cons") => `(tactic| (refine unr_end1 (by assumption) (by assumption) (by assumption) (And.intro (.head _) trivial) ?_))
theorem stream_D {w : World} {hb : Heap} (B : Base w hb) {m : Nat} (hm : m ≤ 50) {A : Around} {env : Env} {s : Shared} {Av : Addr → Prop} {outer : List Env} {v : Value} {ga : Addr} {u : Tm} {gs : GenState} {g : Nat} {Lg : Addr} (fit : Fits (A.deeper env) 90) (hfr : A.frames = some outer) (FF : s.heap.FunFrames hb (env :: outer)) (hF : ∀ a ∈ frs (env :: outer), Av a) (X : Ext hb s.heap) (hav : Have Av s.heap) (gi : GenI (At hb s.heap Av) v (.ref ga)) (hg : s.gens[g]? = some gs) (gf : GF w hb m Av u v gs g Lg s.heap) {Q E : Value → Shared → Prop}
    (hQ : ∀ r h' tk gens', (∀ b o, s.heap.get? b = some o → b ≠ Lg → (b ∉ frs (env :: outer) → h'.get? b = some o) ∧ (b ∈ frs (env :: outer) → ∃ sl, h'.get? b = some { o with slots := sl })) → R (At hb h' Av) r u → GK g s.gens gens' → Q r { s with heap := h', toks := tk, gens := gens' }) :
    wpAny (model PySem.Challenge.rw_fe0177_01.prog w) (A.deeper env) (call (.ref 206) [v]) Q E s :=
  stream_new B hm fit (by show A.frames.map _ = _; rw [hfr]; rfl) FF hF X hav gi hg gf Q E hQ
theorem reify_new {w : World} {hb : Heap} (B : Base w hb) {σ : Sb} {d : Addr} {ks : List Int} (hσ : SbOk σ) {n : Nat} (hn : n ≤ 20) {t u : Tm} (f : Full σ n t u) {v : Value} : GRC w hb (.ref 234) [v, .ref d] 92 (fun P => R P v t ∧ Sub P σ d ks) (fun r P => R P r u) := by
  unfold GRC
  have KX := B.kx
  revert KX
  k_fill
  intro KX A s Av outer fit hfr FF hF X hav hp Q E hQ
  obtain ⟨hr, hs⟩ := hp
  obtain ⟨mean, mg, mb, T⟩ := B.top
  have hSn : ∀ a ∈ frs outer, hb.get? a = none := fun a ha => FunFrames.none FF ha
  refine wpAny_call ?_
  k_dflt (refine' enter (binds := [(Str.ofString "e", v), (Str.ofString "s", .ref d)]) B X hav ?k6 ?k7 fit.room ?k9 ?kB ?c2 ?c3 ?c4 ?c5 ?_; (case k6 => k_is); (case k7 => k_is); (case k9 => exact BindsTo.of_eq rfl); (case c5 => decide); (case kB => exact locs rfl); (case c2 => exact rfl); (case c3 => exact rfl); (case c4 => exact rfl); k_whole)
  intro L h₁ D F N l1 W
  dsimp only
  k_fold
  obtain ⟨es, ep, hd, he⟩ := hs.ex
  have hd' := (W.pd hd).1
  have lks := ks_len hs.nodup fun k hk => by obtain ⟨t, h⟩ := Sub.has hs hk; exact Has.rng h
  have les := he.len
  k_steps
  refine len_d (not_mods B hd.2.1) (N _ hd').1 (by simp only [List.size_toArray]; omega) fun tk1 tk2 => ?_
  k_steps
  · rename_i h0
    have hk0 : ks = [] := List.eq_nil_of_length_eq_zero (by simp only [List.size_toArray] at h0; omega)
    have no : ∀ k t, ¬ σ.Has k (some t) := fun k t h => by
      have := hs.all k t h
      rw [hk0] at this
      exact nomatch this
    have e := full_nil no f
    subst e
    exact hQ _ _ _ _ (.of (Wk.done W F N)) (hr.mono fun _ _ => At.ext (Wk.done W F N)) fun h => h
  · refine ReifyC.useF (reify_of B hσ n f (2 * n + 1) (by omega)) [] F N (fun _ _ h => nomatch h) (Wk.toF W hF) (Fits.go fit (by omega)) FF (hr.mono fun _ _ => W.pd) (hs.mono fun _ _ => W.pd) (fun h4 t4 D4 i4 r4 F4 N4 o4 s4 W4 => ?_) fun v4 ga4 gs4 Lc4 h4 t4 D4 i4 n4 g4 b4 gf4 F4 N4 o4 s4 W4 al4 => ?_
    · obtain ⟨i, tki, rfl⟩ := int_of i4 hr
      clear F N
      k_steps
      refine wpAny_A0 (n := 3) (Fits.go fit (by omega)) (stream_int (B.kx.keeps F4.keep) i tki _ _ fun h5 tk5 x5 => ?_)
      k_steps
      exact hQ _ _ _ _ ((W4.done hSn F4 N4).trans (.of x5)) (r4.mono fun _ _ y => At.ext x5 (PD.at N4 y)) fun h => h
    · have Fk := fun b o (e : s.heap.get? b = some o) => Wk.done W F N b o e
      replace N4 : News hb L h4 D4 := N4
      clear F N
      k_steps
      refine stream_D B (m := 2 * n + 1) (by omega) (s := ⟨h4, _, _, _, _⟩) (Av := fun a => Av a ∨ a ∈ [L]) (Fits.go fit (by omega)) hfr ?FF ?hF F4.keep ?hav (g4.mono fun a o y => ⟨(N4 _ y.1).1, (N4 _ y.1).2.2, fun z => z.elim y.2 fun q => (N4 _ y.1).2.1 (List.mem_singleton.mp q)⟩) (Array.getElem?_push_size ..) gf4 fun r h5 tk5 gens5 kp5 r5 gk5 => ?_
      case FF => exact Own.frames ⟨rfl, fun q => (nomatch q), F4.above⟩ F4 (W4.frames hSn F4 N4 FF)
      case hF =>
        intro a ha
        have ha' : a ∈ L :: frs outer := ha
        rcases List.mem_cons.mp ha' with rfl | ha'
        · exact .inr (.head _)
        · exact .inl (hF a ha')
      case hav =>
        intro a ha
        rcases ha with ha | ha
        · obtain ⟨o, e⟩ := hav a ha
          obtain ⟨sl, e'⟩ := (W4.done hSn F4 N4).some e
          exact ⟨_, e'⟩
        · rw [List.mem_singleton.mp ha]
          obtain ⟨o, _, _, e, _⟩ := F4.ns
          exact ⟨o, e⟩
      k_steps
      refine hQ r _ _ _ (fun b o e => ?_) (r5.mono fun a o y => ⟨y.1, y.2.1, fun z => y.2.2 (.inl z)⟩) fun hb' => gk5.2.2 fun x hx => ?_
      · have nbc : b ≠ Lc4 := fun q => by
          have z := Fk b o e
          rw [q] at z
          exact nomatch n4.symm.trans z
        have nbL : b ≠ L := fun q => by rw [q, W.off] at e; cases e
        have x4 := W4.done hSn F4 N4
        by_cases hb0 : b ∈ frs outer
        · obtain ⟨sl, e1⟩ := (x4 b o e).2 hb0
          obtain ⟨sl2, e2⟩ := (kp5 b _ e1 nbc).2 (show b ∈ L :: frs outer from .tail _ hb0)
          exact ⟨fun h => absurd hb0 h, fun _ => ⟨sl2, e2⟩⟩
        · exact ⟨fun _ => (kp5 b _ ((x4 b o e).1 hb0) nbc).1 fun h => (List.mem_cons.mp (show b ∈ L :: frs outer from h)).elim nbL hb0, fun h => absurd h hb0⟩
      · rcases Array.mem_push.mp hx with h1 | h1
        · exact hb' x h1
        · exact h1 ▸ b4
end Mine
end
theorem Mine.flush48 : True ∧ True := by
  w_top off
  try (fail_if_success walk1)
  exact ⟨trivial, trivial⟩
section
open PySem PySem.W PyProof.Rows PySem.Spec PySem.Calls PySem.W.X
set_option maxRecDepth 100000
set_option maxHeartbeats 1000000
namespace Mine
noncomputable def valTm (n k : Int) : Option Tm := if n.fmod 3 = 0 then none else some (termTm 1 (n.fdiv 3) (k + 1))
noncomputable def sbOf (n0 n1 n2 n3 : Int) : Sb := ⟨valTm n0 0, valTm n1 1, valTm n2 2, valTm n3 3⟩
local macro_rules | `(tactic| k_mem) => `(tactic| first | exact List.Mem.head _ | assumption | exact Held.mem (by assumption) | (refine' List.Mem.tail _ ?_; k_mem))
section
variable {prog : Program} {w : World} {A : Around} {E : Value → Shared → Prop} {h₀ : Heap} {L : Addr} {m : Str → Option Value}
theorem compEnd_R {I C Dd : Addr} {s₁ : Shared} {oI oC oD : Obj} {rest : Value → List (Addr × Obj) → Prop} {y : Value} {h' : Heap} {tk : Nat} {D' : List (Addr × Obj)} (F : Fr h₀ L h' m) (N : News h₀ L h' ((I, oI) :: (C, oC) :: (Dd, oD) :: D'))
    (off : LCg.Off3 I C Dd D') (r : rest y D') : LCg.CompEnd h₀ L m s₁ I oI C oC Dd oD (fun _ => True) rest y { s₁ with heap := h', toks := tk } := ⟨h', tk, D', rfl, F, N, off, trivial, r⟩
end
theorem sub_lit {w : World} {hb : Heap} {A : Around} {s : Shared} {E Q : Value → Shared → Prop} {L na : Addr} {D : List (Addr × Obj)} {its : List Value} {n i : Nat} {k : Int} {t : Tok} {x : Value} {value slice : PySem.Expr} (N : News hb L s.heap D) (hm : (na, lstObj its n) ∈ D) (hk : k = (i : Int)) (hi : its[i]? = some x) (hsz : (its.length : Int) < 2 ^ 62)
    (hs : subscripted slice false (.ref na) (.int k t) = operate [.ref na, .int k t] (getItem (.ref na) (.int k t))) (ht : ∀ r, letTemporaryGo value (.ref na) r = pure ()) (h : Q x s) : wpAny (MG w) A (subscriptTail value slice (.ref na) (.int k t)) Q E s := by
  have hl : s.heap.IsList na its.toArray := ⟨_, (N _ hm).1, rfl, _, rfl⟩
  have hlt : i < its.length := (List.getElem?_eq_some_iff.mp hi).1
  subst hk
  refine subscriptTail_builtin hl.typeIs slot_list_getitem.lookup (wpAny_getItem_list hl (by omega) (by omega) ?_ h) hs ht
  simpa using hi
local macro_rules | `(tactic| walk_at "subscriptTail Name Name ref int") => `(tactic| (refine' sub_lit ?N ?m ?k ?i ?z ?hs ?ht ?_; (case N => assumption); (case m => k_mem); (case k => first | exact (rfl : (0 : Int) = ((0 : Nat) : Int)) | exact (rfl : (1 : Int) = ((1 : Nat) : Int)) | exact (rfl : (2 : Int) = ((2 : Nat) : Int)) | exact (rfl : (3 : Int) = ((3 : Nat) : Int))); (case i => exact rfl); (case z => (simp only [List.length_cons, List.length_nil]; omega)); (case hs => with_unfolding_all rfl); (case ht => intro _; with_unfolding_all rfl)))
local macro_rules | `(tactic| walk_at "CompSrc") => `(tactic| (k_dflt (refine LCg.CompSrc.range (Fits.handled (Fits.go (by assumption) (Nat.le_refl _))) (by k_asm) (by k_asm) (by assumption) (by first | decide | rfl) (by first | rfl | decide) (by first | size_fits | exact Nat.le_of_ble_eq_true rfl) ?_); intro g'; lcg_lit))
structure Hd2 (q r : Addr × Obj) (D : List (Addr × Obj)) : Prop where
  m1 : q ∈ D
  m2 : r ∈ D
theorem Hd2.sub {q r : Addr × Obj} {D D' : List (Addr × Obj)} (h : Hd2 q r D) (s : ∀ p ∈ D, p ∈ D') : Hd2 q r D' := ⟨s _ h.m1, s _ h.m2⟩
inductive VL (P : Addr → Obj → Prop) : List Value → List (Option Tm) → Prop where
  | nil : VL P [] []
  | snoc {ys : List Value} {ts : List (Option Tm)} {v : Value} {t : Option Tm} : VL P ys ts → VR P v t → VL P (ys ++ [v]) (ts ++ [t])
theorem VR.mono {P P' : Addr → Obj → Prop} (h : ∀ a o, P a o → P' a o) {v : Value} {t : Option Tm} (r : VR P v t) : VR P' v t := by
  cases t with
  | none => exact r
  | some t => exact R.mono h r
theorem VL.mono {P P' : Addr → Obj → Prop} (h : ∀ a o, P a o → P' a o) {ys : List Value} {ts : List (Option Tm)} (r : VL P ys ts) : VL P' ys ts := by
  induction r with
  | nil => exact .nil
  | snoc _ x ih => exact .snoc ih (x.mono h)
theorem VL.no {P : Addr → Obj → Prop} {ys : List Value} {ts : List (Option Tm)} (r : VL P ys ts) : VL P (ys ++ [.none]) (ts ++ [none]) := .snoc r rfl
theorem VL.yes {D D' : List (Addr × Obj)} {Av : Addr → Prop} {ys : List Value} {ts : List (Option Tm)} {v : Value} {t : Tm} (r : VL (PD D Av) ys ts) (s : ∀ p ∈ D, p ∈ D') (x : R (PD D' Av) v t) : VL (PD D' Av) (ys ++ [v]) (ts ++ [some t]) := .snoc (r.mono fun _ _ => PD.sub s) x
local macro_rules | `(tactic| k_mem) => `(tactic| first | exact List.Mem.head _ | assumption | exact Held.mem (by assumption) | exact Hd2.m1 (by assumption) | exact Hd2.m2 (by assumption) | (refine' List.Mem.tail _ ?_; k_mem))
def EltJ (hb h₀ : Heap) (Av : Addr → Prop) (L : Addr) (m : Str → Option Value) (mu D : List (Addr × Obj)) (x : Option Tm) (s : Shared) (y : Value) (s' : Shared) : Prop :=
  ∃ h' tk D', s' = { s with heap := h', toks := tk } ∧ Fr hb L h' m ∧ News hb L h' (mu ++ D') ∧ (∀ p ∈ D', p.1 ∉ mu.map (·.1)) ∧ (∀ p ∈ D, p ∈ D') ∧ Wk hb h₀ Av L D' ∧ VR (PD D' Av) y x
theorem vr_no {P : Addr → Obj → Prop} {n k : Int} (h : n.fmod 3 = 0) : VR P .none (valTm n k) := by
  unfold valTm
  rw [if_pos h]
  rfl
theorem vr_yes {P : Addr → Obj → Prop} {n k : Int} {v : Value} (h : n.fmod 3 ≠ 0) (r : R P v (termTm 1 (n.fdiv 3) (k + 1))) : VR P v (valTm n k) := by
  unfold valTm
  rw [if_neg h]
  exact r
theorem elt_merge {w : World} {hb h₀ : Heap} {Av : Addr → Prop} {L : Addr} {m : Str → Option Value} {mu D : List (Addr × Obj)} {x : Option Tm} {A : Around} {E : Value → Shared → Prop} {s : Shared} {t : Sem Value} {Q : Value → Shared → Prop} (h : wpAny (MG w) A t (EltJ hb h₀ Av L m mu D x s) E s) (k : ∀ y s', EltJ hb h₀ Av L m mu D x s y s' → Q y s') : wpAny (MG w) A t Q E s := wpAny_mono h k fun _ _ e => e
local macro_rules | `(tactic| walk_at "EltJ") => `(tactic| first
  | exact ⟨_, _, _, rfl, by assumption, by assumption, of_off3 (by assumption), fun _ h => h, by assumption, vr_no (by assumption)⟩
  | exact ⟨_, _, _, rfl, by assumption, by assumption, by assumption, by assumption, by assumption, vr_yes (by assumption) (by assumption)⟩)
def Halt (P : Prop) : Prop := P
theorem Halt.on {P : Prop} (h : Halt P) : P := h
local macro_rules | `(tactic| walk_at "CompRest") => `(tactic| refine Halt.on ?_)
local macro_rules | `(tactic| walk_at "call ref") => `(tactic| (refine RC.useX (term_new (by assumption) 1 _ _ _ _ _ _ (by decide) (by decide) (by decide)) [_, _, _] (by assumption) (by assumption) (of_off3 (by assumption)) (by assumption) (Fits.go (by assumption) (by omega)) trivial mono_true mono_R ?_; intro v9 h9 t9 D9 F9 N9 o9 s9 W9 p9))
theorem values_new {w : World} {hb : Heap} (B : Base w hb) {na : Addr} {n0 n1 n2 n3 n4 : Int} {t0 t1 t2 t3 t4 : Tok} {c : Nat} : RC w hb (.ref 260) [.ref na] 25 (fun P => P na (lstObj [.int n0 t0, .int n1 t1, .int n2 t2, .int n3 t3, .int n4 t4] c)) (fun v P => ∃ va v0 v1 v2 v3 m, v = .ref va ∧ Vals P va (sbOf n0 n1 n2 n3) v0 v1 v2 v3 m) := by
  unfold RC
  have KX := B.kx
  revert KX
  k_fill
  intro KX A s Av fit X hav hp Q E hQ
  obtain ⟨mean, mg, mb, T⟩ := B.top
  refine wpAny_call ?_
  k_dflt (refine' enterC (binds := [(Str.ofString "numbers", .ref na)]) B X hav ?k6 ?k7 fit.room ?k9 ?kB ?kD ?c2 ?c3 ?c4 ?_; (case k6 => k_is); (case k7 => k_is); (case k9 => exact BindsTo.of_eq rfl); (case kB => exact rfl); (case kD => decide +kernel); (case c2 => exact rfl); (case c3 => exact rfl); (case c4 => exact rfl); k_whole)
  intro L h₁ tk D cells F₀ N Y l1 W
  dsimp only
  k_fold
  obtain ⟨o1, hE, d1₀⟩ := CellsAre.one Y
  subst hE
  have F : Fr hb L h₁ (fun _ => none) := F₀
  have d1 : o1.data = .cell (some (.ref na)) := d1₀
  clear F₀ d1₀ Y
  simp only [List.cons_append, List.nil_append] at N
  have hn' := (W.pd hp).1
  have W := W.cons (q := (L + 1, o1))
  have H0 : Hd2 (na, _) (L + 1, o1) ((L + 1, o1) :: D) := ⟨.tail _ hn', .head _⟩
  k_steps
  unfold Halt
  with_unfolding_all refine LCg.CompRest.succ ?_
  intro v' I' oI' C' oC' D' m' h' tk' E' hv' hC' hx' F' N' off' ne'
  obtain ⟨t9', hv9'⟩ := hv'
  simp at hv9'
  subst hv9'
  refine elt_merge (x := valTm n0 0) (mu := [(I', oI'), (C', oC'), (D', LCg.lst ([]))]) (D := ((L + 1, o1) :: D)) (h₀ := s.heap) (Av := Av) (L := L) (m := fun _ => none) (hb := hb) ?_ ?_
  · k_steps
  clear F' N' off' ne' hC' hx'
  rintro y0 s0 ⟨h0, tk0, D0, rfl, F0, N0, off0, sub0, W0, V0⟩
  refine compEnd_R F0 N0 (off3_of off0) ?_
  have H1 := Hd2.sub H0 sub0
  clear H0
  with_unfolding_all refine LCg.CompRest.succ ?_
  intro v' I' oI' C' oC' D' m' h' tk' E' hv' hC' hx' F' N' off' ne'
  obtain ⟨t9', hv9'⟩ := hv'
  simp at hv9'
  subst hv9'
  refine elt_merge (x := valTm n1 1) (mu := [(I', oI'), (C', oC'), (D', LCg.lst ([] ++ [y0]))]) (D := D0) (h₀ := s.heap) (Av := Av) (L := L) (m := fun _ => none) (hb := hb) ?_ ?_
  · k_steps
  clear F' N' off' ne' hC' hx'
  rintro y1 s1 ⟨h1, tk1, D1, rfl, F1, N1, off1, sub1, W1, V1⟩
  refine compEnd_R F1 N1 (off3_of off1) ?_
  have H2 := Hd2.sub H1 sub1
  clear H1
  with_unfolding_all refine LCg.CompRest.succ ?_
  intro v' I' oI' C' oC' D' m' h' tk' E' hv' hC' hx' F' N' off' ne'
  obtain ⟨t9', hv9'⟩ := hv'
  simp at hv9'
  subst hv9'
  refine elt_merge (x := valTm n2 2) (mu := [(I', oI'), (C', oC'), (D', LCg.lst ([] ++ [y0] ++ [y1]))]) (D := D1) (h₀ := s.heap) (Av := Av) (L := L) (m := fun _ => none) (hb := hb) ?_ ?_
  · k_steps
  clear F' N' off' ne' hC' hx'
  rintro y2 s2 ⟨h2, tk2, D2, rfl, F2, N2, off2, sub2, W2, V2⟩
  refine compEnd_R F2 N2 (off3_of off2) ?_
  have H3 := Hd2.sub H2 sub2
  clear H2
  with_unfolding_all refine LCg.CompRest.succ ?_
  intro v' I' oI' C' oC' D' m' h' tk' E' hv' hC' hx' F' N' off' ne'
  obtain ⟨t9', hv9'⟩ := hv'
  simp at hv9'
  subst hv9'
  refine elt_merge (x := valTm n3 3) (mu := [(I', oI'), (C', oC'), (D', LCg.lst ([] ++ [y0] ++ [y1] ++ [y2]))]) (D := D2) (h₀ := s.heap) (Av := Av) (L := L) (m := fun _ => none) (hb := hb) ?_ ?_
  · k_steps
  clear F' N' off' ne' hC' hx'
  rintro y3 s3 ⟨h3, tk3, D3, rfl, F3, N3, off3, sub3, W3, V3⟩
  refine compEnd_R F3 N3 (off3_of off3) ?_
  have H4 := Hd2.sub H3 sub3
  clear H3
  refine LCg.CompRest.zero ?_
  k_steps
  rename_i Dd hh tkk Fd Nd od
  replace Nd : News hb L hh ((Dd, lstObj [y0, y1, y2, y3] _) :: D3) := Nd
  have Nd3 : News hb L hh D3 := fun p hp => Nd p (.tail _ hp)
  have hdd := (Wk.toF (S := []) W3 fun _ h => nomatch h).newOff (.head _) Nd fun p hp => off1_mem od p hp
  exact hQ _ _ _ (Wk.done W3 Fd Nd3) ⟨Dd, y0, y1, y2, y3, _, rfl, ⟨PD.at Nd hdd, V0.mono fun _ _ y => PD.at Nd3 (PD.sub (fun p hp => sub3 p (sub2 p (sub1 p hp))) y), V1.mono fun _ _ y => PD.at Nd3 (PD.sub (fun p hp => sub3 p (sub2 p hp)) y), V2.mono fun _ _ y => PD.at Nd3 (PD.sub sub3 y), V3.mono fun _ _ y => PD.at Nd3 y⟩⟩
end Mine
end
theorem Mine.flush49 : True ∧ True := by
  w_top off
  try (fail_if_success walk1)
  exact ⟨trivial, trivial⟩
section
open PySem PySem.W PyProof.Rows PySem.Spec PySem.Calls PySem.W.X
namespace Mine
theorem Full.mono {σ : Sb} {n : Nat} {t u : Tm} (f : Full σ n t u) : ∀ {m : Nat}, n ≤ m → Full σ m t u := by
  induction f with
  | int n i => intro m _; exact .int m i
  | free h => intro m _; exact .free h
  | var h _ ih => intro m hm; obtain ⟨m', rfl⟩ : ∃ m', m = m' + 1 := ⟨m - 1, by omega⟩; exact .var h (ih (by omega))
  | tup2 _ _ ia ib => intro m hm; obtain ⟨m', rfl⟩ : ∃ m', m = m' + 1 := ⟨m - 1, by omega⟩; exact .tup2 (ia (by omega)) (ib (by omega))
  | tup3 _ _ ia ib => intro m hm; obtain ⟨m', rfl⟩ : ∃ m', m = m' + 1 := ⟨m - 1, by omega⟩; exact .tup3 (ia (by omega)) (ib (by omega))
  | lst _ _ ia ib => intro m hm; obtain ⟨m', rfl⟩ : ∃ m', m = m' + 1 := ⟨m - 1, by omega⟩; exact .lst (ia (by omega)) (ib (by omega))
  | dct _ _ ia ib => intro m hm; obtain ⟨m', rfl⟩ : ∃ m', m = m' + 1 := ⟨m - 1, by omega⟩; exact .dct (ia (by omega)) (ib (by omega))
theorem Full.idem {σ : Sb} {n : Nat} {t u : Tm} (f : Full σ n t u) : Full σ n u u := by
  induction f with
  | int n i => exact .int n i
  | free h => exact .free h
  | var h _ ih => exact ih.mono (Nat.le_succ _)
  | tup2 _ _ ia ib => exact .tup2 ia ib
  | tup3 _ _ ia ib => exact .tup3 ia ib
  | lst _ _ ia ib => exact .lst ia ib
  | dct _ _ ia ib => exact .dct ia ib
/-- only variables from low on, and below four; depth at most d -/
inductive Ab (low : Int) : Nat → Tm → Prop where
  | var {d : Nat} {k : Int} : low ≤ k → 0 ≤ k → k < 4 → Ab low d (.var k)
  | int {d : Nat} (i : Int) : Ab low d (.int i)
  | tup2 {d : Nat} {a b : Tm} : Ab low d a → Ab low d b → Ab low (d + 1) (.tup2 a b)
  | tup3 {d : Nat} {a b : Tm} : Ab low d a → Ab low d b → Ab low (d + 1) (.tup3 a b)
  | lst {d : Nat} {a b : Tm} : Ab low d a → Ab low d b → Ab low (d + 1) (.lst a b)
  | dct {d : Nat} {a b : Tm} : Ab low d a → Ab low d b → Ab low (d + 1) (.dct a b)
theorem Ab.mono {low low' : Int} (h : low' ≤ low) {d : Nat} {t : Tm} (a : Ab low d t) : Ab low' d t := by
  induction a with
  | var h1 h2 h3 => exact .var (by omega) h2 h3
  | int i => exact .int i
  | tup2 _ _ x y => exact .tup2 x y
  | tup3 _ _ x y => exact .tup3 x y
  | lst _ _ x y => exact .lst x y
  | dct _ _ x y => exact .dct x y
theorem Has.all (σ : Sb) {k : Int} (h0 : 0 ≤ k) (h4 : k < 4) : ∃ o, σ.Has k o := by
  have : k = 0 ∨ k = 1 ∨ k = 2 ∨ k = 3 := by omega
  rcases this with rfl | rfl | rfl | rfl
  · exact ⟨_, .h0⟩
  · exact ⟨_, .h1⟩
  · exact ⟨_, .h2⟩
  · exact ⟨_, .h3⟩
def VOk (σ : Sb) : Prop := ∀ k t, σ.Has k (some t) → Ab (k + 1) 1 t ∧ Vt t
theorem full_ex {σ : Sb} (hv : VOk σ) : ∀ (j : Nat) {low : Int} {d : Nat} {t : Tm}, 4 - low ≤ j → Ab low d t → ∃ u, Full σ (2 * j + d) t u := by
  intro j
  induction j with
  | zero =>
    intro low d t hj a
    induction a with
    | var h1 h2 h3 => omega
    | int i => exact ⟨_, .int _ i⟩
    | tup2 _ _ x y => obtain ⟨u, fu⟩ := x; obtain ⟨v, fv⟩ := y; exact ⟨_, .tup2 fu fv⟩
    | tup3 _ _ x y => obtain ⟨u, fu⟩ := x; obtain ⟨v, fv⟩ := y; exact ⟨_, .tup3 fu fv⟩
    | lst _ _ x y => obtain ⟨u, fu⟩ := x; obtain ⟨v, fv⟩ := y; exact ⟨_, .lst fu fv⟩
    | dct _ _ x y => obtain ⟨u, fu⟩ := x; obtain ⟨v, fv⟩ := y; exact ⟨_, .dct fu fv⟩
  | succ j ih =>
    intro low d t hj a
    induction a with
    | @var d k h1 h2 h3 =>
      obtain ⟨o, ho⟩ := Has.all σ h2 h3
      cases o with
      | none => exact ⟨_, .free ho⟩
      | some t' =>
        obtain ⟨u, fu⟩ := ih (low := k + 1) (by omega) (hv k t' ho).1
        exact ⟨u, Full.mono (.var ho fu) (by omega)⟩
    | int i => exact ⟨_, .int _ i⟩
    | tup2 _ _ x y => obtain ⟨u, fu⟩ := x; obtain ⟨v, fv⟩ := y; exact ⟨_, .tup2 fu fv⟩
    | tup3 _ _ x y => obtain ⟨u, fu⟩ := x; obtain ⟨v, fv⟩ := y; exact ⟨_, .tup3 fu fv⟩
    | lst _ _ x y => obtain ⟨u, fu⟩ := x; obtain ⟨v, fv⟩ := y; exact ⟨_, .lst fu fv⟩
    | dct _ _ x y => obtain ⟨u, fu⟩ := x; obtain ⟨v, fv⟩ := y; exact ⟨_, .dct fu fv⟩
theorem leaf_ok (n low : Int) (h0 : 0 ≤ low) (h5 : low ≤ 5) (d : Nat) : Ab low d (leafTm n low) ∧ ∃ h, Lf (leafTm n low) h := by
  have m0 : 0 ≤ n.fmod (7 - low) := Int.fmod_nonneg_of_pos _ (by omega)
  have m1 : n.fmod (7 - low) < 7 - low := Int.fmod_lt_of_pos _ (by omega)
  unfold leafTm
  split
  · exact ⟨.var (by omega) (by omega) (by omega), _, .var (by omega) (by omega)⟩
  · exact ⟨.int _, _, .int (by omega) (by omega)⟩
theorem term_ab : ∀ (d : Nat) (n low : Int), 0 ≤ low → low + d ≤ 5 → Ab low d (termTm d n low) := by
  intro d
  induction d with
  | zero => intro n low h0 h5; exact (leaf_ok _ _ h0 (by omega) 0).1
  | succ d ih =>
    intro n low h0 h5
    have a := ih (n.fdiv 5) low h0 (by omega)
    have b := (ih (n.fdiv 35) (low + 1) (by omega) (by omega)).mono (show low ≤ low + 1 by omega)
    simp only [termTm]
    split
    · exact (leaf_ok _ _ h0 (by omega) _).1
    · split
      · exact .tup3 a b
      · split
        · exact .lst a b
        · split
          · exact .dct a b
          · exact .tup2 a b
theorem lf_vt {t : Tm} {h : Int} (l : Lf t h) : Vt t := by
  cases l with
  | var _ _ => exact .var _
  | int a b => exact .int a b
theorem term_vt (n low : Int) (h0 : 0 ≤ low) (h5 : low ≤ 4) : Vt (termTm 1 n low) := by
  obtain ⟨_, h, l0⟩ := leaf_ok (n.fdiv 5) low h0 (by omega) 0
  obtain ⟨_, k1, l1⟩ := leaf_ok ((n.fdiv 5).fdiv 5) low h0 (by omega) 0
  obtain ⟨_, k2, l2⟩ := leaf_ok ((n.fdiv 35).fdiv 5) (low + 1) (by omega) (by omega) 0
  simp only [termTm]
  split
  · exact lf_vt l0
  · split
    · exact .tup3 l1 l2
    · split
      · exact .lst _ _
      · split
        · exact .dct _ _
        · exact .tup2 l1 l2
theorem val_ok {n k : Int} (h0 : 0 ≤ k) (h3 : k ≤ 3) {t : Tm} (h : valTm n k = some t) : Ab (k + 1) 1 t ∧ Vt t := by
  unfold valTm at h
  split at h
  · cases h
  · simp only [Option.some.injEq] at h
    subst h
    exact ⟨term_ab 1 _ _ (by omega) (by omega), term_vt _ _ (by omega) (by omega)⟩
theorem sb_ok (n0 n1 n2 n3 : Int) : VOk (sbOf n0 n1 n2 n3) := by
  intro k t h
  generalize ho : some t = o at h
  cases h with
  | h0 => exact val_ok (by decide) (by decide) ho.symm
  | h1 => exact val_ok (by decide) (by decide) ho.symm
  | h2 => exact val_ok (by decide) (by decide) ho.symm
  | h3 => exact val_ok (by decide) (by decide) ho.symm
theorem VOk.sb {σ : Sb} (h : VOk σ) : SbOk σ := fun k t x => (h k t x).2
theorem law_full (n0 n1 n2 n3 n4 : Int) : ∃ u, Full (sbOf n0 n1 n2 n3) 10 (termTm 2 n4 0) u := full_ex (sb_ok n0 n1 n2 n3) 4 (low := 0) (by omega) (term_ab 2 n4 0 (by decide) (by decide))
end Mine
end
theorem Mine.flush50 : True ∧ True := by
  w_top off
  try (fail_if_success walk1)
  exact ⟨trivial, trivial⟩
section
open PySem PySem.W PyProof.Rows PySem.Spec PySem.Calls PySem.W.X
set_option maxRecDepth 100000
set_option maxHeartbeats 2000000
namespace Mine
def NumsP (v : Value) (P : Addr → Obj → Prop) : Prop := ∃ a t0 t1 t2 t3 t4 c, v = .ref a ∧ P a (lstObj [.int 10 t0, .int 1 t1, .int 607 t2, .int 1 t3, .int 109 t4] c)
theorem nums_at {P : Addr → Obj → Prop} {a : Addr} {t0 t1 t2 t3 t4 : Tok} {c : Nat} (h : P a (lstObj [.int 10 t0, .int 1 t1, .int 607 t2, .int 1 t3, .int 109 t4] c)) : NumsP (.ref a) P := ⟨_, _, _, _, _, _, _, rfl, h⟩
local macro_rules | `(tactic| x_close) => `(tactic| (refine x_done (by assumption) (by assumption) ?_; refine' nums_at (at_of (by assumption) (by assumption) (by assumption) ?m1); (case m1 => exact List.Mem.head _)))
theorem nums_raw {w : World} {s : Shared} {hb : Heap} {Av : Addr → Prop} : (hd.heap_39 w.params).In s.heap → ∀ (x : Ext hb s.heap) (hav : ∀ a, Av a → ∃ o, s.heap.get? a = some o) (Q E : Value → Shared → Prop)
  (hQ : ∀ v h' tk, Ext s.heap h' → NumsP v (At hb h' Av) → Q v { s with heap := h', toks := tk }),
   wpAny (model PySem.Challenge.rw_fe0177_01.prog w) A0 (call (.ref 241) []) Q E s := by
  k_fill
  intro KX x hav Q E hQ
  x_run
theorem nums_new {w : World} {hb : Heap} (B : Base w hb) : RC w hb (.ref 241) [] 3 (fun _ => True) NumsP :=
  fun _ _ _ f x hav _ _ _ hQ => wpAny_A0 f (nums_raw (B.kx.keeps x) x hav _ _ hQ)
theorem mono_nums : ∀ v : Value, ∀ P P' : Addr → Obj → Prop, (∀ a o, P a o → P' a o) → NumsP v P → NumsP v P' := fun _ _ _ h ⟨a, t0, t1, t2, t3, t4, c, e, x⟩ => ⟨a, t0, t1, t2, t3, t4, c, e, h _ _ x⟩
end Mine
end
theorem Mine.flush51 : True ∧ True := by
  w_top off
  try (fail_if_success walk1)
  exact ⟨trivial, trivial⟩
section
open PySem PySem.W PyProof.Rows PySem.Spec PySem.Calls PySem.W.X
set_option maxRecDepth 100000
set_option maxHeartbeats 2000000
namespace Mine
theorem get_at {h : Heap} {b : Addr} (e : h.objs.size ≤ b) : h.get? b = none := by
  cases q : h.get? b with
  | none => rfl
  | some o => exact absurd (Heap.lt_size q) (Nat.not_lt.mpr e)
/-- a heap whose last place is filled -/
theorem trim : ∀ (n : Nat) (h : Heap), h.objs.size = n → (∃ a o, h.get? a = some o) → ∃ h' : Heap, (∀ b, h'.get? b = h.get? b) ∧ (∃ a o, h'.get? a = some o ∧ h'.objs.size = a + 1) ∧ h'.objs.size ≤ h.objs.size := by
  intro n
  induction n with
  | zero => intro h hn ⟨a, o, e⟩; exact absurd (Heap.lt_size e) (Nat.not_lt.mpr (hn ▸ Nat.zero_le a))
  | succ n ih =>
    intro h hn he
    cases q : h.get? n with
    | some o => exact ⟨h, fun _ => rfl, ⟨n, o, q, hn⟩, Nat.le_refl _⟩
    | none =>
      have hp : (Heap.mk h.objs.pop h.life).objs.size = n := by show h.objs.pop.size = n; rw [Array.size_pop, hn]; rfl
      have g : ∀ b, (Heap.mk h.objs.pop h.life).get? b = h.get? b := fun b => by
        rcases Nat.lt_trichotomy b n with hb | hb | hb
        · unfold Heap.get?
          rw [show (Heap.mk h.objs.pop h.life).objs[b]? = h.objs[b]? by
            show h.objs.pop[b]? = h.objs[b]?
            rw [Array.getElem?_pop, if_pos (by rw [hn]; exact hb)]]
        · subst hb
          rw [q]
          exact get_at (hp ▸ Nat.le_refl _)
        · rw [get_at (h := h) (hn ▸ hb)]
          exact get_at (hp ▸ Nat.le_of_lt hb)
      obtain ⟨h', g', l', s'⟩ := ih ⟨h.objs.pop, h.life⟩ hp (by obtain ⟨a, o, e⟩ := he; exact ⟨a, o, (g a).trans e⟩)
      exact ⟨h', fun b => (g' b).trans (g b), l', Nat.le_trans s' (hp ▸ hn ▸ Nat.le_succ n)⟩
/-- the end of the law -/
def LawEnd (hb : Heap) (s₁ : Shared) (f : Flow) (s' : Shared) : Prop := ∃ h' gens' tk, f = .ret (.bool true) ∧ s' = { s₁ with heap := h', gens := gens', toks := tk } ∧ Ext hb h' ∧ ∀ x ∈ gens', x.bare = true
def LawJ (J : Shared → Prop) (f : Flow) (s : Shared) : Prop := f = .next ∧ J s
theorem exec_mid {w : World} {A : Around} {env : Env} {st : Stmt} {rest : List Stmt} {s : Shared} {Q : Flow → Shared → Prop} {E : Value → Shared → Prop} (J : Shared → Prop) (h : wpAny (MG w) A (exec st env) (LawJ J) E s) (k : ∀ s', J s' → wpAny (MG w) A (execs rest env) Q E s') : wpAny (MG w) A (execs (st :: rest) env) Q E s :=
  wpAny_execs_cons (wpAny_mono h (fun f s' x => by obtain ⟨rfl, x⟩ := x; exact k s' x) fun _ _ e => e)
/-- the addresses of the law's own frame and cells -/
abbrev cs (L : Nat) : List Addr := [L, L + 1 + 1 + 1, L + 1 + 1, L + 1]
/-- between two statements of the law -/
def LSt (hb : Heap) (s₁ : Shared) (L : Nat) (m : Str → Option Value) (v1 v2 v3 : Option Value) (P : (Addr → Obj → Prop) → Prop) (s' : Shared) : Prop :=
  ∃ h' gens' tk c1 c2 c3, s' = { s₁ with heap := h', gens := gens', toks := tk } ∧ Fr hb L h' m ∧ News hb L h' [(L + 1 + 1 + 1, c1), (L + 1 + 1, c2), (L + 1, c3)] ∧ c1.data = .cell v1 ∧ c2.data = .cell v2 ∧ c3.data = .cell v3 ∧ (∀ x ∈ gens', x.bare = true) ∧ P (At hb h' (· ∈ cs L))
theorem none_L {hb h : Heap} {L : Addr} {m : Str → Option Value} (F : Fr hb L h m) : hb.get? L = none := by
  cases q : hb.get? L with
  | none => rfl
  | some o => exact absurd (Heap.lt_size q) (Nat.not_lt.mpr F.above)
theorem wk0 {hb h : Heap} {L : Addr} {m : Str → Option Value} {D : List (Addr × Obj)} (F : Fr hb L h m) : Wk hb hb (fun _ => False) L D := ⟨Ext.refl _, fun _ h => h.elim, none_L F, fun p hp => by
  have z := (allX_mem (a := p.1) (o := p.2)).mp hp
  rw [z.1] at z
  exact nomatch z.2.1⟩
theorem LSt.open {hb : Heap} {s₁ : Shared} {L : Nat} {m : Str → Option Value} {v1 v2 v3 : Option Value} {P : (Addr → Obj → Prop) → Prop} {s' : Shared} (x : LSt hb s₁ L m v1 v2 v3 P s') (hP : ∀ R R' : Addr → Obj → Prop, (∀ a o, R a o → R' a o) → P R → P R') :
    ∃ h' gens' tk c1 c2 c3 D, s' = { s₁ with heap := h', gens := gens', toks := tk } ∧ Fr hb L h' m ∧ News hb L h' ((L + 1 + 1 + 1, c1) :: (L + 1 + 1, c2) :: (L + 1, c3) :: D) ∧ (∀ p ∈ D, p.1 ∉ [L + 1 + 1 + 1, L + 1 + 1, L + 1]) ∧ c1.data = .cell v1 ∧ c2.data = .cell v2 ∧ c3.data = .cell v3 ∧ (∀ x ∈ gens', x.bare = true) ∧ P (PD D fun _ => False) := by
  obtain ⟨h', gens', tk, c1, c2, c3, e, F, N, d1, d2, d3, b, p⟩ := x
  refine ⟨h', gens', tk, c1, c2, c3, allX hb h' (cs L), e, F, fun p hp => ?_, fun p hp q => (allX_mem.mp hp).2.2 (List.mem_cons_of_mem _ q), d1, d2, d3, b, hP _ _ (fun a o y => ⟨allX_mem.mpr ⟨y.2.1, y.1, y.2.2⟩, fun h => h⟩) p⟩
  rcases List.mem_append.mp (show p ∈ [(L + 1 + 1 + 1, c1), (L + 1 + 1, c2), (L + 1, c3)] ++ allX hb h' (cs L) from hp) with hp | hp
  · exact N p hp
  · exact News_all (.head _) p hp
theorem ne_data {hb h : Heap} {L : Addr} {D : List (Addr × Obj)} {a b : Addr} {o oc : Obj} (N : News hb L h D) (ha : (a, o) ∈ D) (hb' : (b, oc) ∈ D) (hd : o.data ≠ oc.data) : a ≠ b := fun q => by
  subst q
  have z := (N _ ha).1.symm.trans (N _ hb').1
  simp only [Option.some.injEq] at z
  exact hd (congrArg Obj.data z)
theorem LSt.close {hb : Heap} {s₁ : Shared} {L : Nat} {m : Str → Option Value} {v1 v2 v3 : Option Value} {P : (Addr → Obj → Prop) → Prop} {h' : Heap} {gens' : Array GenState} {tk : Nat} {c1 c2 c3 : Obj} {X : List (Addr × Obj)} (hP : ∀ R R' : Addr → Obj → Prop, (∀ a o, R a o → R' a o) → P R → P R')
    (F : Fr hb L h' m) (N : News hb L h' X) (m1 : (L + 1 + 1 + 1, c1) ∈ X) (m2 : (L + 1 + 1, c2) ∈ X) (m3 : (L + 1, c3) ∈ X) (d1 : c1.data = .cell v1) (d2 : c2.data = .cell v2) (d3 : c3.data = .cell v3) (b : ∀ x ∈ gens', x.bare = true)
    (p : P fun a o => (a, o) ∈ X ∧ a ∉ [L + 1 + 1 + 1, L + 1 + 1, L + 1]) : LawJ (LSt hb s₁ L m v1 v2 v3 P) .next { s₁ with heap := h', gens := gens', toks := tk } := by
  refine ⟨rfl, h', gens', tk, c1, c2, c3, rfl, F, fun p hp => ?_, d1, d2, d3, b, hP _ _ (fun a o y => ⟨(N _ y.1).1, (N _ y.1).2.2, fun q => ?_⟩) p⟩
  · simp only [List.mem_cons, List.not_mem_nil, or_false] at hp
    rcases hp with rfl | rfl | rfl
    · exact N _ m1
    · exact N _ m2
    · exact N _ m3
  · rcases List.mem_cons.mp q with q | q
    · exact (N _ y.1).2.1 q
    · exact y.2 q
theorem fit0 {env : Env} {n : Nat} (h : n ≤ 400) : Fits (callerA.deeper env) n := ⟨rfl, by
  show (1 + 300) + 1 + n ≤ 900
  omega, by
  show 4 + 3 + 20 * n ≤ 9000
  omega⟩
theorem ints5 {n0 n1 n2 n3 n4 : Int} {t0 t1 t2 t3 t4 : Tok} : IntsAre [.int n0 t0, .int n1 t1, .int n2 t2, .int n3 t3, .int n4 t4] [n0, n1, n2, n3, n4] := .cons _ _ (.cons _ _ (.cons _ _ (.cons _ _ (.cons _ _ .nil))))
theorem Vals.mono {P P' : Addr → Obj → Prop} (h : ∀ a o, P a o → P' a o) {va : Addr} {σ : Sb} {v0 v1 v2 v3 : Value} {n : Nat} (v : Vals P va σ v0 v1 v2 v3 n) : Vals P' va σ v0 v1 v2 v3 n :=
  ⟨h _ _ v.obj, v.r0.mono h, v.r1.mono h, v.r2.mono h, v.r3.mono h⟩
theorem mono_vals {σ : Sb} : ∀ v : Value, ∀ P P' : Addr → Obj → Prop, (∀ a o, P a o → P' a o) → (∃ va v0 v1 v2 v3 m, v = .ref va ∧ Vals P va σ v0 v1 v2 v3 m) → (∃ va v0 v1 v2 v3 m, v = .ref va ∧ Vals P' va σ v0 v1 v2 v3 m) :=
  fun _ _ _ h ⟨va, v0, v1, v2, v3, m, e, x⟩ => ⟨va, v0, v1, v2, v3, m, e, x.mono h⟩
theorem offs {L : Nat} {D : List (Addr × Obj)} (o : ∀ p ∈ D, p.1 ∉ [L + 1 + 1 + 1, L + 1 + 1, L + 1]) (c2 c3 : Obj) : (∀ p ∈ D, p.1 ≠ L + 1) ∧ (∀ p ∈ (L + 1, c3) :: D, p.1 ≠ L + 1 + 1) ∧ (∀ p ∈ (L + 1 + 1, c2) :: (L + 1, c3) :: D, p.1 ≠ L + 1 + 1 + 1) := by
  have h : ∀ p ∈ D, p.1 ≠ L + 1 + 1 + 1 ∧ p.1 ≠ L + 1 + 1 ∧ p.1 ≠ L + 1 := fun p hp => by
    have z := o p hp
    simp only [List.mem_cons, List.not_mem_nil, or_false, not_or] at z
    exact z
  refine ⟨fun p hp => (h p hp).2.2, fun p hp => ?_, fun p hp => ?_⟩
  · rcases List.mem_cons.mp hp with rfl | hp
    · show L + 1 ≠ L + 1 + 1
      omega
    · exact (h p hp).2.1
  · rcases List.mem_cons.mp hp with rfl | hp
    · show L + 1 + 1 ≠ L + 1 + 1 + 1
      omega
    · rcases List.mem_cons.mp hp with rfl | hp
      · show L + 1 ≠ L + 1 + 1 + 1
        omega
      · exact (h p hp).1
theorem LSt.close1 {hb : Heap} {s₁ : Shared} {L : Nat} {m : Str → Option Value} {v1 v2 v3 : Option Value} {P : (Addr → Obj → Prop) → Prop} {h' : Heap} {gens' : Array GenState} {tk : Nat} {c1 c2 c3 : Obj} {D : List (Addr × Obj)} {new : Addr} {o : Obj} (hP : ∀ R R' : Addr → Obj → Prop, (∀ a o, R a o → R' a o) → P R → P R')
    (F : Fr hb L h' m) (N : News hb L h' ((new, o) :: (L + 1 + 1 + 1, c1) :: (L + 1 + 1, c2) :: (L + 1, c3) :: D)) (off : ∀ p ∈ D, p.1 ∉ [L + 1 + 1 + 1, L + 1 + 1, L + 1]) (hd : ∀ v, o.data ≠ .cell v) (d1 : c1.data = .cell v1) (d2 : c2.data = .cell v2) (d3 : c3.data = .cell v3) (b : ∀ x ∈ gens', x.bare = true)
    (p : P fun a o' => (a = new ∧ o' = o) ∨ PD D (fun _ => False) a o') : LawJ (LSt hb s₁ L m v1 v2 v3 P) .next { s₁ with heap := h', gens := gens', toks := tk } := by
  refine LSt.close hP F N (.tail _ (.head _)) (.tail _ (.tail _ (.head _))) (.tail _ (.tail _ (.tail _ (.head _)))) d1 d2 d3 b (hP _ _ (fun a o' y => ?_) p)
  rcases y with ⟨rfl, rfl⟩ | y
  · refine ⟨.head _, fun q => ?_⟩
    simp only [List.mem_cons, List.not_mem_nil, or_false] at q
    rcases q with q | q | q
    · exact ne_data N (.head _) (.tail _ (.head _)) (by rw [d1]; exact hd _) q
    · exact ne_data N (.head _) (.tail _ (.tail _ (.head _))) (by rw [d2]; exact hd _) q
    · exact ne_data N (.head _) (.tail _ (.tail _ (.tail _ (.head _)))) (by rw [d3]; exact hd _) q
  · exact ⟨.tail _ (.tail _ (.tail _ (.tail _ y.1))), off _ y.1⟩
theorem LSt.close0 {hb : Heap} {s₁ : Shared} {L : Nat} {m : Str → Option Value} {v1 v2 v3 : Option Value} {P : (Addr → Obj → Prop) → Prop} {h' : Heap} {gens' : Array GenState} {tk : Nat} {c1 c2 c3 : Obj} {D : List (Addr × Obj)} (hP : ∀ R R' : Addr → Obj → Prop, (∀ a o, R a o → R' a o) → P R → P R')
    (F : Fr hb L h' m) (N : News hb L h' ((L + 1 + 1 + 1, c1) :: (L + 1 + 1, c2) :: (L + 1, c3) :: D)) (off : ∀ p ∈ D, p.1 ∉ [L + 1 + 1 + 1, L + 1 + 1, L + 1]) (d1 : c1.data = .cell v1) (d2 : c2.data = .cell v2) (d3 : c3.data = .cell v3) (b : ∀ x ∈ gens', x.bare = true)
    (p : P (PD D fun _ => False)) : LawJ (LSt hb s₁ L m v1 v2 v3 P) .next { s₁ with heap := h', gens := gens', toks := tk } :=
  LSt.close hP F N (.head _) (.tail _ (.head _)) (.tail _ (.tail _ (.head _))) d1 d2 d3 b (hP _ _ (fun _ _ y => ⟨.tail _ (.tail _ (.tail _ y.1)), off _ y.1⟩) p)
def Sb.at (σ : Sb) (k : Int) : Option Tm := if k = 0 then σ.s0 else if k = 1 then σ.s1 else if k = 2 then σ.s2 else σ.s3
theorem Sb.has_at (σ : Sb) {k : Int} (h0 : 0 ≤ k) (h4 : k < 4) : σ.Has k (σ.at k) := by
  have : k = 0 ∨ k = 1 ∨ k = 2 ∨ k = 3 := by omega
  rcases this with rfl | rfl | rfl | rfl
  · exact .h0
  · exact .h1
  · exact .h2
  · exact .h3
theorem sub_vals {w : World} {hb : Heap} {A : Around} {s : Shared} {E Q : Value → Shared → Prop} {L va : Addr} {D : List (Addr × Obj)} {σ : Sb} {v0 v1 v2 v3 : Value} {vm : Nat} {P : Addr → Obj → Prop} {k : Int} {t : Tok} {value slice : PySem.Expr} (N : News hb L s.heap D) (hm : (va, lstObj [v0, v1, v2, v3] vm) ∈ D) (V : Vals P va σ v0 v1 v2 v3 vm) (h0 : 0 ≤ k) (h4 : k < 4)
    (hs : subscripted slice false (.ref va) (.int k t) = operate [.ref va, .int k t] (getItem (.ref va) (.int k t))) (ht : ∀ r, letTemporaryGo value (.ref va) r = pure ()) (h : ∀ v, VR P v (σ.at k) → Q v s) : wpAny (MG w) A (subscriptTail value slice (.ref va) (.int k t)) Q E s := by
  have : k = 0 ∨ k = 1 ∨ k = 2 ∨ k = 3 := by omega
  rcases this with rfl | rfl | rfl | rfl
  · exact sub_lit N hm (i := 0) rfl rfl (by simp only [List.length_cons, List.length_nil]; omega) hs ht (h _ V.r0)
  · exact sub_lit N hm (i := 1) rfl rfl (by simp only [List.length_cons, List.length_nil]; omega) hs ht (h _ V.r1)
  · exact sub_lit N hm (i := 2) rfl rfl (by simp only [List.length_cons, List.length_nil]; omega) hs ht (h _ V.r2)
  · exact sub_lit N hm (i := 3) rfl rfl (by simp only [List.length_cons, List.length_nil]; omega) hs ht (h _ V.r3)
theorem isnot_vr {w : World} {A : Around} {s : Shared} {E Q : Value → Shared → Prop} {P : Addr → Obj → Prop} {v : Value} {o : Option Tm} (r : VR P v o) (h : Q (.bool o.isSome) s) : wpAny (MG w) A (compareOp .IsNot v .none) Q E s := by
  cases o with
  | none =>
    have e : v = .none := r
    subst e
    exact isnot_none_none h
  | some t =>
    have r' : R P v t := r
    cases r' <;> exact wpAny_isNot_other (by rfl) (by intro x; cases x) h
def bndG (σ : Sb) (l : List Int) (k : Int) : List Int := if (σ.at k).isSome = true then l ++ [k] else l
theorem bndG_grows (σ : Sb) : KPfGrows (bndG σ) := by
  intro l k
  unfold bndG
  split
  · simp
  · exact Nat.le_succ _
theorem bndG_fold (σ : Sb) : ∀ (ks l : List Int), ks.foldl (bndG σ) l = l ++ ks.filter fun k => (σ.at k).isSome
  | [], l => by simp
  | k :: ks, l => by
    rw [List.foldl_cons, bndG_fold σ ks, List.filter_cons]
    unfold bndG
    split
    · rw [List.append_assoc]; rfl
    · rfl
theorem el_yes {σ : Sb} {news : List (Addr × Obj)} {l : List Int} {k : Int} {t : Tok} (h : (σ.at k).isSome = true) : KCiEl news l (bndG σ l k) (.int k t) news := kci_el (by unfold bndG; rw [if_pos h]) rfl rfl
theorem el_no {σ : Sb} {news : List (Addr × Obj)} {l : List Int} {k : Int} (h : ¬ (σ.at k).isSome = true) : KCiNo news l (bndG σ l k) news := kci_no (by unfold bndG; rw [if_neg h]) rfl
theorem drop2 {hb h : Heap} {L : Addr} {q r : Addr × Obj} {D : List (Addr × Obj)} (N : News hb L h (q :: r :: D)) : News hb L h (q :: D) := fun p hp => by
  rcases List.mem_cons.mp hp with rfl | hp
  · exact N _ (.head _)
  · exact N p (.tail _ (.tail _ hp))
theorem ks_mem {c : Prop} [Decidable c] {p : Int → Bool} {ks : List Int} (e : ks = (if c then [0, 1, 2, 3] else [3, 2, 1, 0]).filter p) {k : Int} (h : k ∈ ks) : 0 ≤ k ∧ k < 4 ∧ p k = true := by
  subst e
  obtain ⟨h1, h2⟩ := List.mem_filter.mp h
  have : k = 0 ∨ k = 1 ∨ k = 2 ∨ k = 3 := by
    split at h1
    · simpa using h1
    · simp only [List.mem_cons, List.not_mem_nil, or_false] at h1
      omega
  exact ⟨by omega, by omega, h2⟩
theorem ks_nodup {c : Prop} [Decidable c] {p : Int → Bool} {ks : List Int} (e : ks = (if c then [0, 1, 2, 3] else [3, 2, 1, 0]).filter p) : ks.Nodup := by
  subst e
  refine List.Pairwise.filter _ ?_
  split <;> decide
theorem ks_len4 {c : Prop} [Decidable c] {p : Int → Bool} {ks : List Int} (e : ks = (if c then [0, 1, 2, 3] else [3, 2, 1, 0]).filter p) : ks.length ≤ 4 := by
  subst e
  refine Nat.le_trans (List.length_filter_le _ _) ?_
  split <;> exact Nat.le_refl _
theorem ks_all {c : Prop} [Decidable c] {σ : Sb} {ks : List Int} (e : ks = (if c then [0, 1, 2, 3] else [3, 2, 1, 0]).filter fun k => (σ.at k).isSome) : ∀ k t, σ.Has k (some t) → k ∈ ks := by
  subst e
  intro k t h
  have rng := Has.rng h
  have z := Has.fn h (σ.has_at rng.1 rng.2)
  refine List.mem_filter.mpr ⟨?_, by rw [← z]; rfl⟩
  have : k = 0 ∨ k = 1 ∨ k = 2 ∨ k = 3 := by omega
  split <;> rcases this with rfl | rfl | rfl | rfl <;> decide
theorem five {ws : List Value} {ms : List Int} (h : IntsAre ws ms) (hl : ms.length = 5) : ∃ n0 n1 n2 n3 n4 t0 t1 t2 t3 t4, ws = [.int n0 t0, .int n1 t1, .int n2 t2, .int n3 t3, .int n4 t4] := by
  cases h with
  | nil => simp at hl
  | cons n0 t0 h =>
  cases h with
  | nil => simp at hl
  | cons n1 t1 h =>
  cases h with
  | nil => simp at hl
  | cons n2 t2 h =>
  cases h with
  | nil => simp at hl
  | cons n3 t3 h =>
  cases h with
  | nil => simp at hl
  | cons n4 t4 h =>
  cases h with
  | nil => exact ⟨_, _, _, _, _, _, _, _, _, _, rfl⟩
  | cons n5 t5 h => simp at hl
theorem five_len {zs : List Int} : (List.take 5 zs ++ List.drop (((List.take 5 zs).length : Nat) : Int).toNat [(10 : Int), 1, 607, 1, 109]).length = 5 := by
  simp only [Int.toNat_natCast, List.length_append, List.length_drop, List.length_take, List.length_cons, List.length_nil]
  omega
end Mine
end
theorem Mine.flush52 : True ∧ True := by
  w_top off
  try (fail_if_success walk1)
  exact ⟨trivial, trivial⟩
section
open PySem PySem.W PyProof.Rows PySem.Spec PySem.Calls PySem.W.X
set_option maxRecDepth 100000
set_option maxHeartbeats 2000000
namespace Mine
/-- no cell -/
def NoC (o : Obj) : Prop := ∀ c, o.data ≠ .cell c
def Nc (P : Addr → Obj → Prop) (a : Addr) (o : Obj) : Prop := P a o ∧ NoC o
theorem R.nc {P : Addr → Obj → Prop} {v : Value} {t : Tm} (r : R P v t) : R (Nc P) v t := by
  induction r with
  | int i tk => exact .int i tk
  | var a b => exact .var ⟨a, fun _ h => nomatch h⟩ ⟨b, fun _ h => nomatch h⟩
  | tup2 a _ _ x y => exact .tup2 ⟨a, fun _ h => nomatch h⟩ x y
  | tup3 a _ _ x y => exact .tup3 ⟨a, fun _ h => nomatch h⟩ x y
  | lst a _ _ x y => exact .lst ⟨a, fun _ h => nomatch h⟩ x y
  | dct a _ _ x y => exact .dct ⟨a, fun _ h => nomatch h⟩ x y
theorem VR.nc {P : Addr → Obj → Prop} {v : Value} {t : Option Tm} (r : VR P v t) : VR (Nc P) v t := by
  cases t with
  | none => exact r
  | some t => exact R.nc r
theorem Vals.nc {P : Addr → Obj → Prop} {va : Addr} {σ : Sb} {v0 v1 v2 v3 : Value} {n : Nat} (v : Vals P va σ v0 v1 v2 v3 n) : Vals (Nc P) va σ v0 v1 v2 v3 n :=
  ⟨⟨v.obj, fun _ h => nomatch h⟩, v.r0.nc, v.r1.nc, v.r2.nc, v.r3.nc⟩
theorem Ents.nc {P : Addr → Obj → Prop} {σ : Sb} {ks : List Int} {es : List DictEntry} (e : Ents P σ ks es) : Ents (Nc P) σ ks es := by
  induction e with
  | nil => exact .nil
  | cons a b c _ ih => exact .cons a.nc b c.nc ih
theorem Sub.nc {P : Addr → Obj → Prop} {σ : Sb} {d : Addr} {ks : List Int} (e : Sub P σ d ks) : Sub (Nc P) σ d ks := by
  obtain ⟨es, ep, a, b⟩ := e.ex
  exact ⟨⟨es, ep, ⟨a, fun _ h => nomatch h⟩, b.nc⟩, e.nodup, e.all⟩
theorem LSt.closeN {hb : Heap} {s₁ : Shared} {L : Nat} {m : Str → Option Value} {v1 v2 v3 : Option Value} {P : (Addr → Obj → Prop) → Prop} {h' : Heap} {gens' : Array GenState} {tk : Nat} {c1 c2 c3 : Obj} {X : List (Addr × Obj)} (hP : ∀ R R' : Addr → Obj → Prop, (∀ a o, R a o → R' a o) → P R → P R')
    (F : Fr hb L h' m) (N : News hb L h' X) (m1 : (L + 1 + 1 + 1, c1) ∈ X) (m2 : (L + 1 + 1, c2) ∈ X) (m3 : (L + 1, c3) ∈ X) (d1 : c1.data = .cell v1) (d2 : c2.data = .cell v2) (d3 : c3.data = .cell v3) (b : ∀ x ∈ gens', x.bare = true)
    (p : P (Nc fun a o => (a, o) ∈ X)) : LawJ (LSt hb s₁ L m v1 v2 v3 P) .next { s₁ with heap := h', gens := gens', toks := tk } := by
  refine LSt.close hP F N m1 m2 m3 d1 d2 d3 b (hP _ _ (fun a o y => ⟨y.1, fun q => ?_⟩) p)
  simp only [List.mem_cons, List.not_mem_nil, or_false] at q
  rcases q with q | q | q
  · exact ne_data N y.1 m1 (by rw [d1]; exact y.2 _) q
  · exact ne_data N y.1 m2 (by rw [d2]; exact y.2 _) q
  · exact ne_data N y.1 m3 (by rw [d3]; exact y.2 _) q
/-- what the law holds behind its fifth statement -/
structure LP (n0 n1 n2 n3 n4 : Int) (t0 t1 t2 t3 t4 : Tok) (cn : Nat) (na va ba sd : Addr) (v0 v1 v2 v3 : Value) (vm : Nat) (tm : Value) (bs : List Value) (ks : List Int) (P : Addr → Obj → Prop) : Prop where
  nums : P na (lstObj [.int n0 t0, .int n1 t1, .int n2 t2, .int n3 t3, .int n4 t4] cn)
  vals : Vals P va (sbOf n0 n1 n2 n3) v0 v1 v2 v3 vm
  term : R P tm (termTm 2 n4 0)
  bnd : P ba (lstObj bs bs.length)
  sub : Sub P (sbOf n0 n1 n2 n3) sd ks
theorem LP.mono {n0 n1 n2 n3 n4 : Int} {t0 t1 t2 t3 t4 : Tok} {cn : Nat} {na va ba sd : Addr} {v0 v1 v2 v3 : Value} {vm : Nat} {tm : Value} {bs : List Value} {ks : List Int} {P P' : Addr → Obj → Prop} (h : ∀ a o, P a o → P' a o) (x : LP n0 n1 n2 n3 n4 t0 t1 t2 t3 t4 cn na va ba sd v0 v1 v2 v3 vm tm bs ks P) : LP n0 n1 n2 n3 n4 t0 t1 t2 t3 t4 cn na va ba sd v0 v1 v2 v3 vm tm bs ks P' :=
  ⟨h _ _ x.nums, x.vals.mono h, x.term.mono h, h _ _ x.bnd, x.sub.mono h⟩
theorem LP.nc {n0 n1 n2 n3 n4 : Int} {t0 t1 t2 t3 t4 : Tok} {cn : Nat} {na va ba sd : Addr} {v0 v1 v2 v3 : Value} {vm : Nat} {tm : Value} {bs : List Value} {ks : List Int} {P : Addr → Obj → Prop} (x : LP n0 n1 n2 n3 n4 t0 t1 t2 t3 t4 cn na va ba sd v0 v1 v2 v3 vm tm bs ks P) : LP n0 n1 n2 n3 n4 t0 t1 t2 t3 t4 cn na va ba sd v0 v1 v2 v3 vm tm bs ks (Nc P) :=
  ⟨⟨x.nums, fun _ h => nomatch h⟩, x.vals.nc, x.term.nc, ⟨x.bnd, fun _ h => nomatch h⟩, x.sub.nc⟩
theorem renorm {hb h : Heap} {L : Nat} {X : List (Addr × Obj)} {c1 c2 c3 : Obj} {v1 v2 v3 : Option Value} (N : News hb L h X) (m1 : (L + 1 + 1 + 1, c1) ∈ X) (m2 : (L + 1 + 1, c2) ∈ X) (m3 : (L + 1, c3) ∈ X) (d1 : c1.data = .cell v1) (d2 : c2.data = .cell v2) (d3 : c3.data = .cell v3) :
    ∃ D, News hb L h ((L + 1 + 1 + 1, c1) :: (L + 1 + 1, c2) :: (L + 1, c3) :: D) ∧ (∀ p ∈ D, p.1 ∉ [L + 1 + 1 + 1, L + 1 + 1, L + 1]) ∧ ∀ a o, Nc (fun a o => (a, o) ∈ X) a o → PD D (fun _ => False) a o := by
  refine ⟨X.filter fun p => !([L + 1 + 1 + 1, L + 1 + 1, L + 1].contains p.1), fun p hp => ?_, fun p hp => by simpa using (List.mem_filter.mp hp).2, fun a o y => ⟨List.mem_filter.mpr ⟨y.1, ?_⟩, fun h => h⟩⟩
  · rcases List.mem_cons.mp hp with rfl | hp
    · exact N _ m1
    · rcases List.mem_cons.mp hp with rfl | hp
      · exact N _ m2
      · rcases List.mem_cons.mp hp with rfl | hp
        · exact N _ m3
        · exact N _ (List.mem_filter.mp hp).1
  · have h1 := ne_data N y.1 m1 (by rw [d1]; exact y.2 _)
    have h2 := ne_data N y.1 m2 (by rw [d2]; exact y.2 _)
    have h3 := ne_data N y.1 m3 (by rw [d3]; exact y.2 _)
    simp [h1, h2, h3]
theorem Ents.snoc {P : Addr → Obj → Prop} {σ : Sb} {ks : List Int} {es : List DictEntry} {k : Int} {x : Addr} {v : Value} {t : Tm} (e : Ents P σ ks es) (rk : R P (.ref x) (.var k)) (hσ : σ.Has k (some t)) (rv : R P v t) : Ents P σ (ks ++ [k]) (es ++ [⟨k, .ref x, v⟩]) := by
  induction e with
  | nil => exact .cons rk hσ rv .nil
  | cons a b c _ ih => exact .cons a b c ih
section
variable {w : World} {hb h₀ : Heap} {A : Around} {s : Shared} {cost : Nat} {pre : (Addr → Obj → Prop) → Prop} {L : Addr} {m : Str → Option Value} {D : List (Addr × Obj)} {E : Value → Shared → Prop} {Av : Addr → Prop}
theorem WkF.toW (W : WkF hb h₀ Av [] L D) : Wk hb h₀ Av L D := ⟨W.ext, W.av, W.off, fun p hp => (W.all p hp).1 fun h => nomatch h⟩
theorem RO.useX {α : Type} {t : Sem α} {post : α → (Addr → Obj → Prop) → Prop} {Q : α → Shared → Prop} (C : RO w hb t cost pre post) (mu : List (Addr × Obj)) (F : Fr hb L s.heap m) (N : News hb L s.heap (mu ++ D)) (off : ∀ p ∈ D, p.1 ∉ mu.map (·.1)) (W : Wk hb h₀ Av L D) (fit : Fits A cost) (hpre : pre (PD D Av))
    (hm : ∀ P P' : Addr → Obj → Prop, (∀ a o, P a o → P' a o) → pre P → pre P') (hn : ∀ v, ∀ P P' : Addr → Obj → Prop, (∀ a o, P a o → P' a o) → post v P → post v P')
    (ret : ∀ v h' tk D', Fr hb L h' m → News hb L h' (mu ++ D') → (∀ p ∈ D', p.1 ∉ mu.map (·.1)) → (∀ p ∈ D, p ∈ D') → Wk hb h₀ Av L D' → post v (PD D' Av) → Q v { s with heap := h', toks := tk }) :
    wpAny (model PySem.Challenge.rw_fe0177_01.prog w) A t Q E s :=
  RO.useF (outer := []) C mu F N off (W.toF (S := frs []) (fun a h => absurd h (by simp [frs]))) fit trivial hpre hm hn fun v h' tk D' F' N' o' s' W' p' => ret v h' tk D' F' N' o' s' (WkF.toW W') p'
theorem hash_ro (B : Base w hb) {x : Addr} {k : Int} (h0 : 0 ≤ k) (h4 : k < 4) : RO w hb (pyHash (.ref x)) 6 (fun P => R P (.ref x) (.var k)) (fun h _ => h = k) :=
  fun _ _ _ f X hav r _ _ hQ => pyHash_var B f X hav r h0 h4 fun h' tk xt => hQ _ _ _ xt rfl
/-- a new entry, keyed by a Var -/
theorem dset_var (B : Base w hb) {I C d x : Addr} {oI oC : Obj} {es : List DictEntry} {ep : Nat} {k : Int} {v : Value} {t : Tm} {σ : Sb} {ks : List Int} {Q : Unit → Shared → Prop} (F : Fr hb L s.heap m) (N : News hb L s.heap ([(I, oI), (C, oC), (d, dctO es.toArray ep)] ++ D)) (off : ∀ p ∈ D, p.1 ∉ [(I, oI), (C, oC), (d, dctO es.toArray ep)].map (·.1))
    (ne : ((@Ne Nat I C) ∧ (@Ne Nat I d) ∧ (@Ne Nat C d))) (fit : Fits A 6) (rk : R (PD D fun _ => False) (.ref x) (.var k)) (rv : R (PD D fun _ => False) v t) (hσ : σ.Has k (some t)) (he : Ents (PD D fun _ => False) σ ks es) (hk : k ∉ ks) (hl : es.length ≤ 4)
    (ret : ∀ h' tk D' ep', Fr hb L h' m → News hb L h' ((I, oI) :: (C, oC) :: (d, dctO (es ++ [(⟨k, .ref x, v⟩ : DictEntry)]).toArray ep') :: D') → LCg.Off3 I C d D' → (∀ p ∈ D, p ∈ D') → Ents (PD D' fun _ => False) σ ks es → R (PD D' fun _ => False) (.ref x) (.var k) → R (PD D' fun _ => False) v t → Q () { s with heap := h', toks := tk }) :
    wpAny (MG w) A (dictSet d (.ref x) v) Q E s := by
  have rng := Has.rng hσ
  unfold dictSet
  refine wpAny_holding (wpAny_bind (RO.useX (hash_ro B rng.1 rng.2) [(I, oI), (C, oC), (d, dctO es.toArray ep)] F N off (wk0 F) fit rk mono_R1 (fun _ _ _ _ h => h) fun h h1 tk1 D1 F1 N1 o1 s1 _ e => ?_))
  subst e
  have hd := (N1 (d, dctO es.toArray ep) (List.mem_append_left _ (.tail _ (.tail _ (.head _))))).1
  have he1 := he.mono (fun _ _ => PD.sub s1)
  have rk1 := rk.mono (fun _ _ => PD.sub s1)
  have rv1 := rv.mono (fun _ _ => PD.sub s1)
  have N1D : News hb L h1 D1 := fun p hp => N1 p (List.mem_append_right _ hp)
  have o3 := off3_of o1
  unfold dictSetHashed
  refine wpAny_holding (wpAny_bind (find_none (s := { s with heap := h1, toks := tk1 }) (es := es) (ep := ep) hd (fun e hm q => ?_) (.inr ⟨x, rfl, fun e hm q => ?_⟩) ?_))
  · obtain ⟨i, hi⟩ := List.mem_iff_getElem?.mp hm
    obtain ⟨k', x', v', t', g1, rfl, _⟩ := he1.at hi
    exact hk (q ▸ List.mem_of_getElem? g1)
  · obtain ⟨i, hi⟩ := List.mem_iff_getElem?.mp hm
    obtain ⟨k', x', v', t', g1, rfl, g2, _⟩ := he1.at hi
    simp only [Value.ref.injEq] at q
    subst q
    have z := var_inj (hb := hb) (h := h1) (Av := fun _ => False) (g2.mono fun _ _ => PD.at N1D) (rk1.mono fun _ _ => PD.at N1D)
    exact hk (z ▸ List.mem_of_getElem? g1)
  · dsimp only
    refine wpAny_bind (wpAny_rule (wpAny_updateDictKeys (hz := ?hz) (s := { s with heap := h1, toks := tk1 }) hd rfl ?_))
    case hz =>
      show es.toArray.size ≤ sizeLine
      rw [sizeLine_eq, List.size_toArray]
      omega
    · have hd0 : hb.get? d = none := (N1 (d, dctO es.toArray ep) (List.mem_append_left _ (.tail _ (.tail _ (.head _))))).2.2
      have hdL : d ≠ L := (N1 (d, dctO es.toArray ep) (List.mem_append_left _ (.tail _ (.tail _ (.head _))))).2.1
      have hs : Heap.SameBut d h1 (h1.update d (Obj.mapDictKeys (·.push ⟨h, .ref x, v⟩))) := Heap.SameBut.update ..
      have hnew := Heap.get?_update_self (h := h1) (Obj.mapDictKeys (·.push ⟨h, .ref x, v⟩)) hd rfl
      have F2 : Fr hb L (h1.update d (Obj.mapDictKeys (·.push ⟨h, .ref x, v⟩))) m := F1.change hs hdL hd0
      refine ret _ _ D1 (ep + 1) F2 (fun p hp => ?_) o3 s1 he1 rk1 rv1
      rcases List.mem_cons.mp hp with rfl | hp
      · have z := N1 (I, oI) (.head _)
        exact ⟨hs.extBut _ _ ne.2.1 z.1, z.2⟩
      · rcases List.mem_cons.mp hp with rfl | hp
        · have z := N1 (C, oC) (.tail _ (.head _))
          exact ⟨hs.extBut _ _ ne.2.2 z.1, z.2⟩
        · rcases List.mem_cons.mp hp with rfl | hp
          · refine ⟨hnew.trans ?_, hdL, hd0⟩
            simp [Obj.mapDictKeys]
          · have z := N1D p hp
            exact ⟨hs.extBut _ _ (LCg.Off3.mem o3 p hp).2.2 z.1, z.2⟩
end
end Mine
end
theorem Mine.flush53 : True ∧ True := by
  w_top off
  try (fail_if_success walk1)
  exact ⟨trivial, trivial⟩
section
open PySem PySem.W PyProof.Rows PySem.Spec PySem.Calls PySem.W.X
set_option maxRecDepth 100000
set_option maxHeartbeats 2000000
namespace Mine
section
variable {prog : Program} {w : World} {A : Around} {E : Value → Shared → Prop} {s : Shared} {h₀ : Heap} {L : Addr} {m : Str → Option Value} {env : Env}
theorem iter_keys {d : Addr} {es : Array DictEntry} {ep : Nat} {Q : Value → Shared → Prop} (hd : (d == sysModules) = false) (ho : s.heap.get? d = some (dctO es ep))
    (hQ : Q (.ref s.heap.objs.size) { s with heap := s.heap.push { cls := .type "dict_keyiterator", data := .fields #[.ref d, .int 0 0, .int es.size 0, .int ep 0] } }) : wpAny (model prog w) A (pyIter (.ref d)) Q E s := by
  have hT : s.TypeIs (.ref d) "dict" := ⟨_, ho, rfl⟩
  refine wpAny_pyIter_slot hT F.slot_dict_iter (wpAny_call_entry F.slot_dict_iter hT F.entry_dict_iter ?_ (F.args_dict_iter_1 _))
  unfold Builtin.«dict.__iter__» Builtin.Dict.dictSlotNone
  refine wpAny_bind (wpAny_bind (wpAny_notOrdered_dict hT (wpAny_pure ?_)))
  show wpAny _ _ (Builtin.Dict.showsAll d >>= _) _ _ s
  unfold Builtin.Dict.showsAll
  rw [if_neg (by rw [hd]; exact Bool.false_ne_true)]
  refine wpAny_bind (wpAny_pure (wpAny_bind (wpAny_dictEntries ho rfl (wpAny_bind (wpAny_dictEpoch ho rfl ?_)))))
  refine wpAny_bind (wpAny_newObj_type (wpAny_pure ⟨_, rfl, "dict_keyiterator", _, ⟨_, Heap.get?_push_size _ rfl, rfl⟩, F.slot_dict_keyiterator_next.lookup, ?_⟩))
  simpa [rawInt] using hQ
/-- ahead of the look at the place: the iterator stands, the dict is as it was -/
theorem next_key {it d : Addr} {i : Nat} {es : Array DictEntry} {ep : Nat} {e : DictEntry} {Q : Option Value → Shared → Prop} (hit : s.heap.IsKeyIter it d i es.size ep) (hod : s.heap.get? d = some (dctO es ep)) (hx : es[i]? = some e)
    (hQ : ∀ h', h'.IsKeyIter it d (i + 1) es.size ep → Heap.SameBut it s.heap h' → Q (some e.key) { s with heap := h' }) : wpAny (model prog w) A (pyNext (.ref it)) Q E s := by
  obtain ⟨o, ho, hc, hd⟩ := id hit
  unfold pyNext
  refine wpAny_bind (wpAny_attempt (wpAny_callSpecial?_slot (name := Str.ofString "__next__") hit.typeIs F.slot_dict_keyiterator_next
    (wpAny_call_entry F.slot_dict_keyiterator_next hit.typeIs F.entry_dict_keyiterator_next ?_ (F.args_dict_keyiterator_next_1 _))))
  refine wpAny_bind (wpAny_pure (wpAny_bind (wpAny_bind ?_)))
  first | refine wpAny_bind (wpAny_typeNameOfWhole_keyiter hit.typeIs (wpAny_pure ?_)) | refine wpAny_bind (wpAny_typeNameOf_keyiter hit.typeIs (wpAny_pure ?_))
  refine wpAny_bind (wpAny_fieldsOf ho hd ?_)
  simp only [show Builtin.Dict_items.ownsTuple "dict_keyiterator" = false by decide, Bool.false_eq_true, if_false]
  show wpAny _ _ (if (Value.ref d == Value.none) = true then _ else _) _ _ s
  rw [if_neg (show ¬ ((Value.ref d == Value.none) = true) from Bool.false_ne_true)]
  refine wpAny_bind (wpAny_pure (wpAny_bind (wpAny_dictEntries hod rfl ?_)))
  rw [if_neg (by simp)]
  refine wpAny_bind (wpAny_pure (wpAny_bind (wpAny_dictEpoch hod rfl ?_)))
  rw [if_neg (by simp)]
  refine wpAny_pure ?_
  simp only [show ¬ ((i : Int) < 0) from by omega, if_false, Int.toNat_natCast, hx]
  refine wpAny_bind ?_
  first | refine wpAny_bind (wpAny_typeNameOfWhole_keyiter hit.typeIs (wpAny_pure ?_)) | refine wpAny_bind (wpAny_typeNameOf_keyiter hit.typeIs (wpAny_pure ?_))
  refine wpAny_bind (wpAny_isOneOf_keyiter hit.typeIs ?_)
  show wpAny _ _ (setField (.ref it) 1 (rawInt ((i : Int) + 1)) >>= _) _ _ s
  refine wpAny_bind (wpAny_setField ho hd (by simp) ?_)
  have hit' : (s.heap.update it (Obj.mapFields (·.setIfInBounds 1 (rawInt ((i : Int) + 1))))).IsKeyIter it d (i + 1) es.size ep :=
    ⟨_, Heap.get?_update_self _ ho (Obj.isFreed_of_fields (Obj.data_mapFields hd _)), (Obj.cls_mapFields ..).trans hc, by rw [Obj.data_mapFields hd]; simp [rawInt]⟩
  refine wpAny_bind (wpAny_holding (wpAny_bind (wpAny_isOneOf_keyiter (s := { s with heap := s.heap.update it (Obj.mapFields (·.setIfInBounds 1 (rawInt ((i : Int) + 1)))) }) hit'.typeIs ?_)))
  show wpAny _ _ (pure e.key) _ _ _
  exact wpAny_pure (wpAny_pure ⟨_, rfl, wpAny_pure (hQ _ hit' (Heap.SameBut.update ..))⟩)
theorem next_end {it d : Addr} {i : Nat} {es : Array DictEntry} {ep : Nat} {Q : Option Value → Shared → Prop} (hh : A.handled = none) (hit : s.heap.IsKeyIter it d i es.size ep) (hod : s.heap.get? d = some (dctO es ep)) (hx : es.size ≤ i)
    (hQ : ∀ h', Heap.ExtBut it s.heap h' → Q none { s with heap := h' }) : wpAny (model prog w) A (pyNext (.ref it)) Q E s := by
  obtain ⟨o, ho, hc, hd⟩ := id hit
  unfold pyNext
  refine wpAny_bind (wpAny_attempt (wpAny_callSpecial?_slot (name := Str.ofString "__next__") hit.typeIs F.slot_dict_keyiterator_next
    (wpAny_call_entry F.slot_dict_keyiterator_next hit.typeIs F.entry_dict_keyiterator_next ?_ (F.args_dict_keyiterator_next_1 _))))
  refine wpAny_bind (wpAny_pure (wpAny_bind (wpAny_bind ?_)))
  first | refine wpAny_bind (wpAny_typeNameOfWhole_keyiter hit.typeIs (wpAny_pure ?_)) | refine wpAny_bind (wpAny_typeNameOf_keyiter hit.typeIs (wpAny_pure ?_))
  refine wpAny_bind (wpAny_fieldsOf ho hd ?_)
  simp only [show Builtin.Dict_items.ownsTuple "dict_keyiterator" = false by decide, Bool.false_eq_true, if_false]
  show wpAny _ _ (if (Value.ref d == Value.none) = true then _ else _) _ _ s
  rw [if_neg (show ¬ ((Value.ref d == Value.none) = true) from Bool.false_ne_true)]
  refine wpAny_bind (wpAny_pure (wpAny_bind (wpAny_dictEntries hod rfl ?_)))
  rw [if_neg (by simp)]
  refine wpAny_bind (wpAny_pure (wpAny_bind (wpAny_dictEpoch hod rfl ?_)))
  rw [if_neg (by simp)]
  refine wpAny_pure ?_
  simp only [show ¬ ((i : Int) < 0) from by omega, if_false, Int.toNat_natCast, Array.getElem?_eq_none hx]
  refine wpAny_bind ?_
  first | refine wpAny_bind (wpAny_typeNameOfWhole_keyiter hit.typeIs (wpAny_pure ?_)) | refine wpAny_bind (wpAny_typeNameOf_keyiter hit.typeIs (wpAny_pure ?_))
  show wpAny _ _ (setField (.ref it) 0 .none >>= _) _ _ s
  refine wpAny_bind (wpAny_setField ho hd (by simp) ?_)
  show wpAny _ _ (newExc (.type "StopIteration") [] >>= _) _ _ _
  refine wpAny_bind ?_
  simp only [newExc, newTuple]
  refine wpAny_bind (wpAny_newObj_type ?_ (by size_fits))
  refine wpAny_bind (m := firstArgMember _ _) (wpAny_of_eq (a := Value.none) (by first | rfl | (simp only [firstArgMember]; rfl)) ?_)
  refine wpAny_newObj_type ?_ (by size_fits)
  simp only [raiseNew]
  refine wpAny_bind (wpAny_handled ?_)
  rw [show A.in1.handled = none from hh]
  refine wpAny_bind (wpAny_pure (wpAny_throw ?_))
  refine wpAny_bind (wpAny_isInstance (T := "StopIteration") (b := true) ⟨_, Heap.get?_push_size _ rfl, rfl⟩ isSubtype_stop ?_)
  exact wpAny_pure (hQ _ (((Heap.SameBut.update ..).extBut.push _).push _))
theorem key_iter_at {h h' : Heap} {it d : Addr} {i n ep : Nat} (x : h.IsKeyIter it d i n ep) (e : ∀ o, h.get? it = some o → h'.get? it = some o) : h'.IsKeyIter it d i n ep := let ⟨o, ho, r⟩ := x; ⟨o, e _ ho, r⟩
/-- the keys of a dict of any keys -/
theorem walks_keys (hh : A.handled = none) (I d : Addr) (hne : d ≠ I) (es : Array DictEntry) (ep : Nat) :
    Walks prog w A I [I, d] [I] es.size (fun i v => ∃ e, es[i]? = some e ∧ v = e.key) (fun i h => h.IsKeyIter I d i es.size ep ∧ h.get? d = some (dctO es ep)) where
  sub := fun b hb => by simp at hb; simp [hb]
  frame := fun _ _ _ st hk => ⟨key_iter_at st.1 fun o e => hk I (by simp) o e, hk d (by simp) _ st.2⟩
  item := fun i s Q E hi st hQ => by
    refine next_key st.1 st.2 (e := es[i]) (by simp [hi]) fun h' hit' hs' => ?_
    exact hQ _ h' s.toks ⟨es[i], by simp [hi], rfl⟩ ⟨hit', hs'.extBut _ _ hne st.2⟩ fun b o hb e => hs'.extBut b o (fun h => hb (by simp [h])) e
  done := fun s Q E st hQ => next_end hh st.1 st.2 (Nat.le_refl _) fun h' he' => hQ h' s.toks fun b o hb e => he' b o (fun h => hb (by simp [h])) e
  self := fun _ _ _ _ st hQ => wpAny_pyIter_keyiter st.1 hQ
def SrcK (prog : Program) (w : World) (A : Around) (h₀ : Heap) (L : Addr) (m : Str → Option Value) (env : Env) (elt : Expr) (x : Str) (scope : Scope) (cl : List (Str × Addr)) (Q : Value → Shared → Prop) (xv : Value) (s₁ : Shared) : Prop :=
  ∃ ax es ep news, xv = .ref ax ∧ (ax == sysModules) = false ∧ Fr h₀ L s₁.heap m ∧ News h₀ L s₁.heap news ∧ (ax, dctO es ep) ∈ news ∧ es.size ≤ sizeLine ∧
    ∀ s₂ : Shared, (∃ h, s₂ = { s₁ with heap := h }) → LCg.CompRest prog w A h₀ L m env elt x scope cl s₂ (fun nw => (ax, dctO es ep) ∈ nw) (fun i v => ∃ e, es[i]? = some e ∧ v = e.key) (LCg.FinE h₀ L m s₂ Q) es.size 0 [] news
/-- a list comprehension over the keys of a dict of the ledger -/
theorem ListComp_K {elt iter : Expr} {x : Str} {px : Pos} {scope : Scope} {cl : List (Str × Addr)} {pos : Pos} {Q : Value → Shared → Prop} (_F₀ : Fr h₀ L s.heap m) (hh : A.handled = none)
    (hclos : closureFor scope env = pure cl) (hcell : ∀ y ∈ scope.names, y.2 ≠ .cell) (hkind : scope.kind = .function)
    (hnames : ∀ y ∈ scope.names, y.2 = .local → scope.names.lookup y.1 = some .local) (hx : scope.names.lookup x = some .local)
    (h : wpAny (model prog w) A (eval iter env) (SrcK prog w A h₀ L m env elt x scope cl Q) E s)
    (hs : ∀ x, foldedSetIterable iter env x = pure x := by intro _; rfl) :
    wpAny (model prog w) A (eval (.ListComp elt [⟨.Name x px, iter, [], 0⟩] scope pos) env) Q E s := by
  rw [eval_ListComp]
  refine wpAny_comprehension_free (use := none) rfl hs hclos hkind hnames (wpAny_mono h (fun xv s₁ h₁ => ?_) fun _ _ e => e)
  obtain ⟨ax, es, ep, news, rfl, hax, F, N, S, hsz, R⟩ := h₁
  have hl := (N _ S).1
  have hlt : ax < s₁.heap.objs.size := Heap.lt_size hl
  refine iter_keys hax hl ?_
  have up : ∀ b o, s₁.heap.get? b = some o → (s₁.heap.push { cls := .type "dict_keyiterator", data := .fields #[.ref ax, .int 0 0, .int es.size 0, .int ep 0] }).get? b = some o := fun b o e => Heap.get?_push_of_some _ e
  refine LCg.block_U (walks_keys hh s₁.heap.objs.size ax (Nat.ne_of_lt hlt) es ep) hsz (fun i h st => by obtain ⟨o, e, _⟩ := st.1; exact ⟨o, e⟩) (fun i h h' o nw st e e' _ N' S' => ⟨by obtain ⟨o', q, r⟩ := st.1; rw [e] at q; cases q; exact ⟨o, e', r⟩, (N' _ S').1⟩) hcell hkind hx ⟨⟨_, Heap.get?_push_size _ rfl, rfl, rfl⟩, up _ _ hl⟩ (fun b hb => ?_)
    (F.keeps up) (N.grown up) (Nat.ne_of_lt F.ns.lt) (next_is_new F) (fun p hp => Nat.ne_of_lt (Heap.lt_size (N p hp).1)) S (R _ ⟨_, rfl⟩) ?_
  · show b < (s₁.heap.push _).objs.size
    rw [Heap.size_push]
    rcases List.mem_cons.mp hb with rfl | hb
    · exact Nat.lt_succ_self _
    · rw [List.mem_singleton.mp hb]; exact Nat.lt_succ_of_lt hlt
  · intro D C h tk m' ys news' F' N' o1 hn hC₀ hD₀ hCL hDL hCD offC fin
    refine ⟨m', hn, fun h'' hs'' => fin D h'' tk (F'.change hs'' hCL hC₀) (fun p hp => ?_) o1⟩
    refine ⟨hs''.extBut _ _ ?_ (N' p hp).1, (N' p hp).2⟩
    rcases List.mem_cons.mp hp with rfl | hp
    · exact Ne.symm hCD
    · exact offC p hp
theorem All2.snoc {α β : Type} {P : α → β → Prop} {as : List α} {bs : List β} {a : α} {b : β} (h : All2 P as bs) (x : P a b) : All2 P (as ++ [a]) (bs ++ [b]) := by
  induction h with
  | nil => exact .cons x .nil
  | cons y _ ih => exact .cons y ih
theorem All2.imp {α β : Type} {P P' : α → β → Prop} (h : ∀ a b, P a b → P' a b) {as : List α} {bs : List β} (x : All2 P as bs) : All2 P' as bs := by
  induction x with
  | nil => exact .nil
  | cons y _ ih => exact .cons (h _ _ y) ih
/-- the turns of a list comprehension whose elements may make objects -/
theorem comp_turns {elt : Expr} {x : Str} {scope : Scope} {cl : List (Str × Addr)} {S : List (Addr × Obj) → Prop} {P : Nat → Value → Prop} {Fin : List Value → List (Addr × Obj) → Prop} {ks : List Int} {n : Nat} {news₀ : List (Addr × Obj)} (V : Int → Value → Prop) (T : List (Addr × Obj) → Value → Int → Prop)
    (hT : ∀ D D' v k, (∀ p ∈ D, p ∈ D') → T D v k → T D' v k) (hn : ks.length = n) (hP : ∀ i v, i < n → P i v → ∃ k, ks[i]? = some k ∧ V k v)
    (turn : ∀ k v I oI C oC D m₂ h tk (E' : Value → Shared → Prop) ys news, k ∈ ks → V k v → (∀ p ∈ news₀, p ∈ news) → LCg.NsObj oC m₂ → m₂ x = some v → Fr h₀ L h m → News h₀ L h ((I, oI) :: (C, oC) :: (D, LCg.lst ys) :: news) → LCg.Off3 I C D news → ((@Ne Nat I C) ∧ (@Ne Nat I D) ∧ (@Ne Nat C D)) →
      wpAny (model prog w) A (eval elt (compEnvC scope cl C env)) (LCg.CompEnd h₀ L m { s with heap := h, toks := tk } I oI C oC D (LCg.lst ys) S (fun y news' => (∀ p ∈ news, p ∈ news') ∧ T news' y k)) E' { s with heap := h, toks := tk })
    (fin : ∀ ys news', (∀ p ∈ news₀, p ∈ news') → All2 (T news') ys ks → Fin ys news') : LCg.CompRest prog w A h₀ L m env elt x scope cl s S P Fin n 0 [] news₀ := by
  have key : ∀ (j i : Nat) (ys : List Value) (news : List (Addr × Obj)), i + j = n → (∀ p ∈ news₀, p ∈ news) → All2 (T news) ys (ks.take i) → LCg.CompRest prog w A h₀ L m env elt x scope cl s S P Fin j i ys news := by
    intro j
    induction j with
    | zero =>
      intro i ys news hi hs hy
      rw [show ks.take i = ks by rw [List.take_of_length_le (by omega)]] at hy
      exact LCg.CompRest.zero (fin ys news hs hy)
    | succ j ih =>
      intro i ys news hi hs hy
      refine LCg.CompRest.succ ?_
      intro v I oI C oC D m₂ h tk E' hv hC hx F N off ne
      obtain ⟨k, hk, hv'⟩ := hP i v (by omega) hv
      refine wpAny_mono (turn k v I oI C oC D m₂ h tk E' ys news (List.mem_of_getElem? hk) hv' hs hC hx F N off ne) (fun y s₂ hq => ?_) fun _ _ e => e
      obtain ⟨h', tk', nw, e, F', N', off', hS, sub, ht⟩ := hq
      refine ⟨h', tk', nw, e, F', N', off', hS, ih (i + 1) _ nw (by omega) (fun p hp => sub p (hs p hp)) ?_⟩
      rw [List.take_add_one, hk]
      exact All2.snoc (hy.imp fun a b z => hT _ _ _ _ sub z) ht
  exact key n 0 [] news₀ (by omega) (fun _ h => h) (by rw [List.take_zero]; exact .nil)
/-- the turns of a dict comprehension that fills a dict keyed by Vars -/
theorem dict_turns {kx vx : Expr} {x : Str} {scope : Scope} {cl : List (Str × Addr)} {S : List (Addr × Obj) → Prop} {P : Nat → Value → Prop} {Fin : Obj → List (Addr × Obj) → Prop} {ks : List Int} {n : Nat} {news₀ : List (Addr × Obj)} {σ : Sb}
    (hn : ks.length = n) (hd : ks.Nodup) (hP : ∀ i v, i < n → P i v → ∃ k t, ks[i]? = some k ∧ v = .int k t)
    (turn : ∀ k t I oI C oC D m₂ h tk (E' : Value → Shared → Prop) done es ep news, k ∈ ks → k ∉ done → done.length < ks.length → (∀ p ∈ news₀, p ∈ news) → Ents (PD news fun _ => False) σ done es → LCg.NsObj oC m₂ → m₂ x = some (.int k t) → Fr h₀ L h m → News h₀ L h ((I, oI) :: (C, oC) :: (D, dctO es.toArray ep) :: news) → LCg.Off3 I C D news → ((@Ne Nat I C) ∧ (@Ne Nat I D) ∧ (@Ne Nat C D)) →
      wpAny (model prog w) A (eval kx (compEnvC scope cl C env)) (fun kv s₄ => wpAny (model prog w) A (eval vx (compEnvC scope cl C env)) (fun vv s₅ =>
        wpAny (model prog w) A (dictSet D kv vv) (fun _ s₆ => DEnd h₀ L m { s with heap := h, toks := tk } I oI C oC D S (fun oD' news' => (∀ p ∈ news, p ∈ news') ∧ ∃ es' ep', oD' = dctO es'.toArray ep' ∧ Ents (PD news' fun _ => False) σ (done ++ [k]) es') s₆) E' s₅) E' s₄) E' { s with heap := h, toks := tk })
    (fin : ∀ es ep news', (∀ p ∈ news₀, p ∈ news') → Ents (PD news' fun _ => False) σ ks es → Fin (dctO es.toArray ep) news') : DRest prog w A h₀ L m env kx vx x scope cl s S P Fin n 0 (dctO #[] 0) news₀ := by
  have key : ∀ (j i : Nat) (es : List DictEntry) (ep : Nat) (news : List (Addr × Obj)), i + j = n → (∀ p ∈ news₀, p ∈ news) → Ents (PD news fun _ => False) σ (ks.take i) es → DRest prog w A h₀ L m env kx vx x scope cl s S P Fin j i (dctO es.toArray ep) news := by
    intro j
    induction j with
    | zero =>
      intro i es ep news hi hs hy
      rw [show ks.take i = ks by rw [List.take_of_length_le (by omega)]] at hy
      exact DRest.zero (fin es ep news hs hy)
    | succ j ih =>
      intro i es ep news hi hs hy
      refine DRest.succ ?_
      intro v I oI C oC D m₂ h tk E' hv hC hx F N off ne
      obtain ⟨k, t, hk, rfl⟩ := hP i v (by omega) hv
      have hno : k ∉ ks.take i := fun hm => by
        obtain ⟨i', hi'⟩ := List.mem_iff_getElem?.mp hm
        have hl : i' < i := by
          have := (List.getElem?_eq_some_iff.mp hi').1
          simp only [List.length_take] at this
          omega
        rw [List.getElem?_take_of_lt hl] at hi'
        exact absurd (idx_inj hd hi' hk) (Nat.ne_of_lt hl)
      refine wpAny_mono (turn k t I oI C oC D m₂ h tk E' (ks.take i) es ep news (List.mem_of_getElem? hk) hno (by simp only [List.length_take]; omega) hs hy hC hx F N off ne) (fun kv s₄ h₄ => wpAny_mono h₄ (fun vv s₅ h₅ => wpAny_mono h₅ (fun _ s₆ hq => ?_) fun _ _ e => e) fun _ _ e => e) fun _ _ e => e
      obtain ⟨h', tk', nw, oD', e, F', N', off', hS, sub, es', ep', rfl, he⟩ := hq
      refine ⟨h', tk', nw, _, e, F', N', off', hS, ih (i + 1) es' ep' nw (by omega) (fun p hp => sub p (hs p hp)) ?_⟩
      rw [List.take_add_one, hk]
      exact he
  exact key n 0 [] 0 news₀ (by omega) (fun _ h => h) (by rw [List.take_zero]; exact .nil)
end
end Mine
end
theorem Mine.flush54 : True ∧ True := by
  w_top off
  try (fail_if_success walk1)
  exact ⟨trivial, trivial⟩
section
open PySem PySem.W PyProof.Rows PySem.Spec PySem.Calls PySem.W.X
set_option maxRecDepth 100000
set_option maxHeartbeats 2000000
namespace Mine
theorem hgt_full {σ : Sb} {n : Nat} {t u : Tm} (f : Full σ n t u) : hgt u ≤ n := by
  induction f with
  | int n i => exact Nat.zero_le _
  | free _ => exact Nat.zero_le _
  | var _ _ ih => omega
  | tup2 _ _ a b => simp only [hgt]; omega
  | tup3 _ _ a b => simp only [hgt]; omega
  | lst _ _ a b => simp only [hgt]; omega
  | dct _ _ a b => simp only [hgt]; omega
theorem hgt_ab {low : Int} {d : Nat} {t : Tm} (a : Ab low d t) : hgt t ≤ d := by
  induction a with
  | var _ _ _ => exact Nat.zero_le _
  | int i => exact Nat.zero_le _
  | tup2 _ _ a b => simp only [hgt]; omega
  | tup3 _ _ a b => simp only [hgt]; omega
  | lst _ _ a b => simp only [hgt]; omega
  | dct _ _ a b => simp only [hgt]; omega
def sb0 : Sb := ⟨none, none, none, none⟩
theorem sb0_no {k : Int} {t : Tm} (h : sb0.Has k (some t)) : False := by
  generalize e : some t = o at h
  cases h <;> exact nomatch e
theorem sb0_has {k : Int} (h0 : 0 ≤ k) (h4 : k < 4) : sb0.Has k none := by
  obtain ⟨o, h⟩ := Has.all sb0 h0 h4
  cases o with
  | none => exact h
  | some t => exact (sb0_no h).elim
theorem full_emp {low : Int} {d : Nat} {t : Tm} (a : Ab low d t) : Full sb0 d t t := by
  induction a with
  | var _ h0 h4 => exact .free (sb0_has h0 h4)
  | int i => exact .int _ i
  | tup2 _ _ a b => exact .tup2 a b
  | tup3 _ _ a b => exact .tup3 a b
  | lst _ _ a b => exact .lst a b
  | dct _ _ a b => exact .dct a b
theorem sb0_ok : SbOk sb0 := fun _ _ h => (sb0_no h).elim
theorem sub_emp {P : Addr → Obj → Prop} {d : Addr} {ep : Nat} (h : P d (dctO #[] ep)) : Sub P sb0 d [] := ⟨⟨[], ep, h, .nil⟩, List.nodup_nil, fun _ _ h => (sb0_no h).elim⟩
theorem emp_of {prog : Program} {w : World} {o : Obj} (h : o.IsDictOf (PySem.intKind prog w) []) : ∃ ep, o = dctO #[] ep := by
  obtain ⟨es, ep, ⟨hc, hdict, hsl⟩, hd, hk, hp, _⟩ := h
  obtain ⟨l⟩ := es
  dsimp only at hp
  cases hp
  obtain ⟨c, d, dt, sl⟩ := o
  dsimp only at hc hdict hsl hd
  subst hc hdict hsl hd
  exact ⟨ep, rfl⟩
section
variable {w : World} {hb : Heap} {A : Around} {s : Shared} {cost : Nat} {L : Nat} {m : Str → Option Value} {D : List (Addr × Obj)} {E : Value → Shared → Prop}
/-- a contract that makes generators and marks frames, used in the law's own walk -/
theorem GRC.useL {f : Value} {args : List Value} {pre : (Addr → Obj → Prop) → Prop} {post : Value → (Addr → Obj → Prop) → Prop} {env : Env} {c1 c2 c3 : Obj} {Q : Value → Shared → Prop} (C : GRC w hb f args cost pre post) (F : Fr hb L s.heap m) (N : News hb L s.heap ((L + 1 + 1 + 1, c1) :: (L + 1 + 1, c2) :: (L + 1, c3) :: D)) (off : ∀ p ∈ D, p.1 ∉ [L + 1 + 1 + 1, L + 1 + 1, L + 1]) (fit : Fits A cost)
    (hfr : A.frames = some [env]) (O : Own hb env L) (bare : ∀ x ∈ s.gens, x.bare = true) (hpre : pre (PD D fun _ => False))
    (hm : ∀ P P' : Addr → Obj → Prop, (∀ a o, P a o → P' a o) → pre P → pre P') (hn : ∀ v, ∀ P P' : Addr → Obj → Prop, (∀ a o, P a o → P' a o) → post v P → post v P')
    (ret : ∀ v h' tk gens' D', Fr hb L h' m → News hb L h' ((L + 1 + 1 + 1, c1) :: (L + 1 + 1, c2) :: (L + 1, c3) :: D') → (∀ p ∈ D', p.1 ∉ [L + 1 + 1 + 1, L + 1 + 1, L + 1]) → (∀ p ∈ D, p ∈ D') → (∀ x ∈ gens', x.bare = true) → post v (PD D' fun _ => False) → Q v { s with heap := h', toks := tk, gens := gens' }) :
    wpAny (model PySem.Challenge.rw_fe0177_01.prog w) A (call f args) Q E s := by
  have hLn : hb.get? L = none := O.none
  have hfs : frs [env] = [L] := by rw [O.frs]; rfl
  have m1 := N (L + 1 + 1 + 1, c1) (.head _)
  have m2 := N (L + 1 + 1, c2) (.tail _ (.head _))
  have m3 := N (L + 1, c3) (.tail _ (.tail _ (.head _)))
  have ND : News hb L s.heap D := fun p hp => N p (.tail _ (.tail _ (.tail _ hp)))
  refine C A s (fun a => a ∈ cs L) [env] fit hfr (O.frames F trivial) (fun a ha => by rw [hfs, List.mem_singleton] at ha; rw [ha]; exact .head _) F.keep (fun a ha => ?_) (hm _ _ (fun a o x => ⟨(ND _ x.1).1, (ND _ x.1).2.2, fun z => ?_⟩) hpre) Q E fun v h' tk gens' x p gk => ?_
  · simp only [List.mem_cons, List.not_mem_nil, or_false] at ha
    rcases ha with rfl | rfl | rfl | rfl
    · obtain ⟨oL, _, _, hL, _⟩ := F.ns
      exact ⟨oL, hL⟩
    · exact ⟨_, m1.1⟩
    · exact ⟨_, m2.1⟩
    · exact ⟨_, m3.1⟩
  · rcases List.mem_cons.mp z with z | z
    · exact (ND _ x.1).2.1 z
    · exact off _ x.1 z
  · rw [hfs] at x
    have up : ∀ b o, b ≠ L → s.heap.get? b = some o → h'.get? b = some o := fun b o n e => (x b o e).1 (by simpa using n)
    refine ret v h' tk gens' (allX hb h' (cs L)) (Fr.extS F x fun a ha => by rw [List.mem_singleton.mp ha]; exact hLn) (fun p hp => ?_) (fun p hp q => (allX_mem.mp hp).2.2 (List.mem_cons_of_mem _ q)) (fun p hp => ?_) (gk bare) (hn v _ _ (fun a o y => ⟨allX_mem.mpr ⟨y.2.1, y.1, y.2.2⟩, fun h => h⟩) p)
    · rcases List.mem_cons.mp hp with rfl | hp
      · exact ⟨up _ _ m1.2.1 m1.1, m1.2⟩
      · rcases List.mem_cons.mp hp with rfl | hp
        · exact ⟨up _ _ m2.2.1 m2.1, m2.2⟩
        · rcases List.mem_cons.mp hp with rfl | hp
          · exact ⟨up _ _ m3.2.1 m3.1, m3.2⟩
          · exact News_all (.head _) p hp
    · have z := ND p hp
      refine allX_mem.mpr ⟨z.2.2, up _ _ z.2.1 z.1, fun q => ?_⟩
      rcases List.mem_cons.mp q with q | q
      · exact z.2.1 q
      · exact off p hp q
theorem ne_ro (B : Base w hb) {v y : Value} {t : Tm} : RO w hb (compareOp .NotEq v y) (5 + hgt t) (fun P => R P v t ∧ R P y t) (fun r _ => r = .bool false) :=
  fun A s Av f X hav p Q E hQ => cmp_R B t A s Av v y .NotEq (.inr rfl) f X hav p.1 p.2 Q E fun h' tk xt => hQ _ _ _ xt rfl
theorem eq_ro (B : Base w hb) {v y : Value} {t : Tm} : RO w hb (compareOp .Eq v y) (5 + hgt t) (fun P => R P v t ∧ R P y t) (fun r _ => r = .bool true) :=
  fun A s Av f X hav p Q E hQ => cmp_R B t A s Av v y .Eq (.inl rfl) f X hav p.1 p.2 Q E fun h' tk xt => hQ _ _ _ xt rfl
theorem mono_R2 {v y : Value} {t : Tm} : ∀ P P' : Addr → Obj → Prop, (∀ a o, P a o → P' a o) → (R P v t ∧ R P y t) → (R P' v t ∧ R P' y t) := fun _ _ h p => ⟨p.1.mono h, p.2.mono h⟩
theorem mono_rs {v : Value} {t : Tm} {σ : Sb} {d : Addr} {ks : List Int} : ∀ P P' : Addr → Obj → Prop, (∀ a o, P a o → P' a o) → (R P v t ∧ Sub P σ d ks) → (R P' v t ∧ Sub P' σ d ks) := fun _ _ h p => ⟨p.1.mono h, p.2.mono h⟩
end
/-- a pair of a number and what it stands for -/
def PT (σ : Sb) (P : Addr → Obj → Prop) (y : Value) (k : Int) : Prop := ∃ t, σ.at k = some t ∧ R P y (.tup2 (.int k) t)
theorem PT.mono {σ : Sb} {P P' : Addr → Obj → Prop} (h : ∀ a o, P a o → P' a o) {y : Value} {k : Int} (x : PT σ P y k) : PT σ P' y k := let ⟨t, e, r⟩ := x; ⟨t, e, r.mono h⟩
theorem PT.nc {σ : Sb} {P : Addr → Obj → Prop} {y : Value} {k : Int} (x : PT σ P y k) : PT σ (Nc P) y k := let ⟨t, e, r⟩ := x; ⟨t, e, r.nc⟩
theorem All2.len {α β : Type} {P : α → β → Prop} {as : List α} {bs : List β} (x : All2 P as bs) : as.length = bs.length := by
  induction x with
  | nil => rfl
  | cons _ _ ih => simp [ih]
theorem all2_zip {α β : Type} {P P' : α → β → Prop} {as as' : List α} {bs : List β} (x : All2 P as bs) : All2 P' as' bs → ∀ p ∈ as.zip as', ∃ b ∈ bs, P p.1 b ∧ P' p.2 b := by
  induction x generalizing as' with
  | nil => intro y p hp; simp at hp
  | @cons a b as bs h _ ih =>
    intro y p hp
    cases y with
    | cons h' y =>
      rw [List.zip_cons_cons] at hp
      rcases List.mem_cons.mp hp with rfl | hp
      · exact ⟨b, .head _, h, h'⟩
      · obtain ⟨b', hb', z⟩ := ih y p hp
        exact ⟨b', .tail _ hb', z⟩
theorem pairs_ro {w : World} {hb : Heap} (B : Base w hb) {σ : Sb} (hσ : VOk σ) {l b : Addr} {ys zs : List Value} {n n2 : Nat} {ks : List Int} (hk : ∀ k ∈ ks, 0 ≤ k ∧ k < 4) :
    RO w hb (compareOp .Eq (.ref l) (.ref b)) 12 (fun P => (P l (lstObj ys n) ∧ P b (lstObj zs n2)) ∧ All2 (PT σ P) ys ks ∧ All2 (PT σ P) zs ks) (fun r _ => r = .bool true) := by
  intro A s Av f X hav p Q E hQ
  obtain ⟨⟨hl, hb'⟩, h1, h2⟩ := p
  refine lst_cmpG (op := .Eq) (.inl rfl) hl.1 hb'.1 (h1.len.trans h2.len.symm) f.cl (fun p hp => ?_) fun h' tk xt => hQ _ _ _ xt rfl
  obtain ⟨k, hk', ⟨t, e, r⟩, ⟨t', e', r'⟩⟩ := all2_zip h1 h2 p hp
  rw [e] at e'
  cases e'
  have rng := hk k hk'
  have ho := σ.has_at rng.1 rng.2
  rw [e] at ho
  have hg := hgt_ab (hσ k t ho).1
  exact (cmp_R B (.tup2 (.int k) t)).item ((Fits.in1 (n := 11) f).less (by simp only [hgt]; omega)) X hav r r'
theorem swap4 {q a b c : Addr × Obj} {D : List (Addr × Obj)} : ∀ p ∈ a :: b :: c :: q :: D, p ∈ q :: a :: b :: c :: D := by
  intro p hp
  simp only [List.mem_cons] at hp ⊢
  rcases hp with h | h | h | h | h
  · exact .inr (.inl h)
  · exact .inr (.inr (.inl h))
  · exact .inr (.inr (.inr (.inl h)))
  · exact .inl h
  · exact .inr (.inr (.inr (.inr h)))
theorem pair_end {h₀ h' : Heap} {L I C Dd Dt : Nat} {m : Str → Option Value} {s : Shared} {oI oC oD : Obj} {S : List (Addr × Obj) → Prop} {news D9 : List (Addr × Obj)} {σ : Sb} {k : Int} {tk0 : Tok} {v : Value} {t : Tm} {tk n : Nat}
    (F : Fr h₀ L h' m) (N : News h₀ L h' ((Dt, tupObj [.int k tk0, v] n) :: (I, oI) :: (C, oC) :: (Dd, oD) :: D9)) (lt : I < Dt ∧ C < Dt ∧ Dd < Dt) (off : LCg.Off3 I C Dd D9) (s9 : ∀ p ∈ news, p ∈ D9) (hS : ∀ q, S (q :: D9)) (ht : σ.at k = some t) (r : R (PD D9 fun _ => False) v t) :
    LCg.CompEnd h₀ L m s I oI C oC Dd oD S (fun y news' => (∀ p ∈ news, p ∈ news') ∧ PT σ (PD news' fun _ => False) y k) (.ref Dt) { s with heap := h', toks := tk } :=
  LCg.CompEnd.intro F N ((Dt, tupObj [.int k tk0, v] n) :: D9) swap4 ⟨⟨(Nat.ne_of_lt lt.1).symm, (Nat.ne_of_lt lt.2.1).symm, (Nat.ne_of_lt lt.2.2).symm⟩, off⟩ (hS _) ⟨fun p hp => .tail _ (s9 p hp), t, ht, .tup2 ⟨.head _, fun h => h⟩ (.int k tk0) (r.mono fun _ _ y => ⟨.tail _ y.1, y.2⟩)⟩
theorem mono_pairs {σ : Sb} {l b : Addr} {ys zs : List Value} {n n2 : Nat} {ks : List Int} : ∀ P P' : Addr → Obj → Prop, (∀ a o, P a o → P' a o) → ((P l (lstObj ys n) ∧ P b (lstObj zs n2)) ∧ All2 (PT σ P) ys ks ∧ All2 (PT σ P) zs ks) → ((P' l (lstObj ys n) ∧ P' b (lstObj zs n2)) ∧ All2 (PT σ P') ys ks ∧ All2 (PT σ P') zs ks) :=
  fun _ _ h p => ⟨⟨h _ _ p.1.1, h _ _ p.1.2⟩, p.2.1.imp fun _ _ x => x.mono h, p.2.2.imp fun _ _ x => x.mono h⟩
end Mine
end
theorem Mine.flush55 : True ∧ True := by
  w_top off
  try (fail_if_success walk1)
  exact ⟨trivial, trivial⟩
section
open PySem PySem.W PyProof.Rows PySem.Spec PySem.Calls PySem.W.X
set_option maxRecDepth 100000
set_option maxHeartbeats 20000000
namespace Mine
local macro_rules | `(tactic| k_mem) => `(tactic| first | exact List.Mem.head _ | assumption | (refine' List.Mem.tail _ ?_; k_mem))
local macro_rules | `(tactic| walk_at "subscriptTail Call") => `(tactic| refine Halt.on ?_)
local macro_rules | `(tactic| walk_at "call ref") => `(tactic| refine Halt.on ?_)
local macro_rules | `(tactic| k_all) => `(tactic| assumption)
local macro_rules | `(tactic| walk_at "subscriptTail Name Constant") => `(tactic| (refine' sub_lit ?N ?m ?k ?i ?z ?hs ?ht ?_; (case N => assumption); (case m => k_mem); (case k => exact (rfl : (4 : Int) = ((4 : Nat) : Int))); (case i => exact rfl); (case z => (simp only [List.length_cons, List.length_nil]; omega)); (case hs => with_unfolding_all rfl); (case ht => intro _; with_unfolding_all rfl)))
local macro_rules | `(tactic| walk_at "CompSrcT") => `(tactic| refine Halt.on ?_)
local macro_rules | `(tactic| walk_at "exec Assign cons ListComp") => `(tactic| (k_dflt (refine LCt.Assign_ListComp_T (F₀ := by k_asm) (by rfl) (by with_unfolding_all rfl) (by with_unfolding_all rfl) (by decide) (by rfl) (by decide) (by rfl) (by rfl) (by rfl) ?_)))
local macro_rules | `(tactic| walk_at "subscriptTail Name Name ref int") => `(tactic| (refine' sub_vals ?N ?m ?V ?a ?b ?hs ?ht ?_; (case N => assumption); (case m => k_mem); (case V => assumption); (case a => omega); (case b => omega); (case hs => with_unfolding_all rfl); (case ht => intro _; with_unfolding_all rfl); intro v9 r9))
local macro_rules | `(tactic| walk_at "compareOp IsNot") => `(tactic| (refine isnot_vr (by assumption) ?_))
local macro_rules | `(tactic| walk_at "eval DictComp") => `(tactic| (k_dflt (refine DictComp_X (by assumption) (by rfl) (by with_unfolding_all rfl) (by decide) (by rfl) (by decide) (by rfl) ?_)))
local macro_rules | `(tactic| walk_at "DSrc") => `(tactic| refine Halt.on ?_)
local macro_rules | `(tactic| walk_at "dictSet") => `(tactic| refine Halt.on ?_)
local macro_rules | `(tactic| walk_at "compareOp NotEq") => `(tactic| refine Halt.on ?_)
local macro_rules | `(tactic| walk_at "compareOp Eq") => `(tactic| ((with_reducible show wpAny _ _ (compareOp CmpOp.Eq _ (Value.ref _)) _ _ _); refine Halt.on ?_))
local macro_rules | `(tactic| walk_at "eval ListComp") => `(tactic| refine Halt.on ?_)
local macro_rules | `(tactic| walk_at "subscriptTail Name Name ref ref") => `(tactic| refine Halt.on ?_)
local macro_rules | `(tactic| walk_at "CompSrc") => `(tactic| refine Halt.on ?_)
theorem law0 : PySem.Challenge.rw_fe0177_01.Holds := Mine.hd (by
  k_fill
  intro w s₀ s₁ mg mb G Y fa o pm cd doc dV kV ho hdd hcd hD hmg hg args vals as hpre hlay hrd hwl hlo
  have KX := kIn_of Y
  refine Ground.open G ?_
  intro T Bt Dt TE TW
  clear hmg
  wrow_args hpre hlay hrd hwl hlo
  refine enter_call ?_
  w_top on
  w_call any ho hdd hcd hD T F
  rename_i zs hs hlay0 hLs hr hl2 as1 as2 sc scs as3 hL ra w1 r0 hI hr2 hlen hco h₁ tk₁ c1 c2 c3 d1 d2 d3 N0 X0
  clear G Y Bt TE TW hlay0 hLs hl2 hr ra w1 r0 hr2 hco hD hs ho X0
  obtain ⟨hb, gb, lb, sb⟩ := trim _ s₁.heap rfl (by obtain ⟨o, e, _⟩ := hL; exact ⟨_, _, e⟩)
  have B : Base w hb := ⟨KX.keeps fun b o e => (gb b).trans e, ⟨_, _, _, T.keeps fun b o e => (gb b).trans e⟩, lb⟩
  refine wpAny_mono (Q := LawEnd hb s₁) (E := fun _ _ => False) ?_ (fun f s' x => ?_) (fun _ _ x => x.elim)
  case refine_2 =>
    obtain ⟨h', gens', tk, rfl, rfl, x, bare⟩ := x
    exact ⟨.inl ⟨.bool true, .bool true, [], rfl, fun _ => rfl, .bool true, (by with_unfolding_all rfl), fun _ => ⟨List.nodup_nil, fun _ h => nomatch h⟩⟩, .of_keep fun b o e => x b o ((gb b).trans e), rfl, bare⟩
  replace F := Fr.mk (h₀ := hb) F.ns (fun b o e => F.keep b o ((gb b).symm.trans e)) (Nat.le_trans sb F.above)
  replace N0 := show News hb _ h₁ _ from fun p hp => ⟨(N0 p hp).1, (N0 p hp).2.1, (gb _).trans (N0 p hp).2.2⟩
  replace hL : hb.IsList sc scs.toArray := by
    obtain ⟨o, e, r⟩ := hL
    exact ⟨o, (gb _).trans e, r⟩
  replace KX := B.kx
  obtain ⟨mean, mg', mb', T'⟩ := B.top
  clear T
  generalize hLz : s₁.heap.objs.size = L at *
  replace F : Fr hb L h₁ (fun y => if y = Str.ofString "script" then some (.ref sc) else none) := F
  replace d1 : c1.data = .cell none := d1
  replace d2 : c2.data = .cell none := d2
  replace d3 : c3.data = .cell none := d3
  clear hcd hdd Dt gb lb sb hLz
  refine exec_mid (fun s' => ∃ na n0 n1 n2 n3 n4 t0 t1 t2 t3 t4 c, LSt hb s₁ L (fun y => if y = Str.ofString "numbers" then some (.ref na) else if y = Str.ofString "script" then some (.ref sc) else none) none none none (fun P => P na (lstObj [.int n0 t0, .int n1 t1, .int n2 t2, .int n3 t3, .int n4 t4] c)) s') ?_ (fun z1 x1 => ?_)
  case refine_1 =>
    k_fold
    k_steps
    unfold Halt
    rename_i Da wa ha Fa Na hIa hCa hLa la
    refine RC.useX (nums_new B) [_, _, _, _] Fa (D := []) Na (fun _ h => nomatch h) (wk0 Fa) (fit0 (by decide)) trivial mono_true mono_nums ?_
    clear Fa Na
    intro v9 h9 t9 D9 F9 N9 o9 s9 W9 p9
    obtain ⟨na, t0, t1, t2, t3, t4, cn, rfl, hn9⟩ := p9
    replace hn9 := hn9.1
    k_steps
    unfold Halt
    rename_i Db wb hb2 Fb Nb lb2 hIb hCb hLb
    refine kba_turn (value' := PySem.Expr.Name (PySem.Str.ofString "_") ⟨0, 0, 0, 0⟩) (fun _ => rfl) ?_
    refine kmk_slice_ints (hi' := ints5) (hm := kmk_from ints5 (by omega)) (hc := rfl) Fb Nb ⟨_, (Nb _ (.tail _ (List.mem_append_right _ hn9))).1, rfl, _, rfl⟩ (IsPart.int _ _) IsPart.none ?_ ?hs ?ht ?hz
    case hs => with_unfolding_all rfl
    case ht => intro _; with_unfolding_all rfl
    case hz => exact Nat.le_of_ble_eq_true rfl
    intro Dc wc hc Fc Nc lc hIc _ hLc
    clear Fb Nb
    k_steps
    rename_i Dd wd hd1 hId ld hd2 Fd Nd
    obtain ⟨n0, n1, n2, n3, n4, t0', t1', t2', t3', t4', rfl⟩ := five hId five_len
    refine (fun (q : LawJ (LSt hb s₁ L _ none none none _) .next _) => ⟨q.1, Dd, n0, n1, n2, n3, n4, t0', t1', t2', t3', t4', 0, q.2⟩) (LSt.close (fun R R' h p => h _ _ p) Fd Nd (.tail _ (.tail _ (.tail _ (.tail _ (.head _))))) (.tail _ (.tail _ (.tail _ (.tail _ (.tail _ (.head _)))))) (.tail _ (.tail _ (.tail _ (.tail _ (.tail _ (.tail _ (.head _))))))) d1 d2 d3 (fun x hx => by rw [hg] at hx; exact absurd hx (by simp)) ⟨.head _, fun q => ?_⟩)
    simp only [List.mem_cons, List.not_mem_nil, or_false] at q
    rcases q with q | q | q
    · exact ne_data Nd (.head _) (.tail _ (.tail _ (.tail _ (.tail _ (.head _))))) (by rw [d1]; exact fun h => nomatch h) q
    · exact ne_data Nd (.head _) (.tail _ (.tail _ (.tail _ (.tail _ (.tail _ (.head _)))))) (by rw [d2]; exact fun h => nomatch h) q
    · exact ne_data Nd (.head _) (.tail _ (.tail _ (.tail _ (.tail _ (.tail _ (.tail _ (.head _))))))) (by rw [d3]; exact fun h => nomatch h) q
  clear F N0 d1 d2 d3 c1 c2 c3 hI hlen hL
  obtain ⟨na, n0, n1, n2, n3, n4, t0, t1, t2, t3, t4, cn, x1⟩ := x1
  refine exec_mid (fun s' => ∃ va v0 v1 v2 v3 vm, LSt hb s₁ L (fun y => if y = Str.ofString "numbers" then some (.ref na) else if y = Str.ofString "script" then some (.ref sc) else none) none none (some (.ref va)) (fun P => P na (lstObj [.int n0 t0, .int n1 t1, .int n2 t2, .int n3 t3, .int n4 t4] cn) ∧ Vals P va (sbOf n0 n1 n2 n3) v0 v1 v2 v3 vm) s') ?_ (fun z2 x2 => ?_)
  case refine_1 =>
    obtain ⟨h1, g1, k1, c1, c2, c3, D1, rfl, F1, N1, o1, d1, d2, d3, b1, p1⟩ := x1.open (fun _ _ h p => h _ _ p)
    clear x1
    k_fold
    k_steps
    unfold Halt
    refine RC.useX (values_new B) [_, _, _] F1 N1 o1 (wk0 F1) (fit0 (by decide)) p1 (fun P P' h p => h _ _ p) mono_vals ?_
    clear F1 N1
    intro v9 h9 t9 D9 F9 N9 o9 s9 W9 p9
    obtain ⟨va, v0, v1, v2, v3, vm, rfl, hv9⟩ := p9
    simp only [List.cons_append, List.nil_append] at N9
    have q9 := (offs (L := L) o9 c2 c3).1
    k_steps
    rename_i h2 o2 F2 N2 e2
    refine (fun (q : LawJ (LSt hb s₁ L _ _ _ _ _) .next _) => ⟨q.1, va, v0, v1, v2, v3, vm, q.2⟩) (LSt.close0 (fun R R' h p => ⟨h _ _ p.1, p.2.mono h⟩) F2 N2 o9 d1 d2 e2 b1 ⟨PD.sub s9 p1, hv9⟩)
  clear x1
  obtain ⟨va, v0, v1, v2, v3, vm, x2⟩ := x2
  refine exec_mid (fun s' => ∃ tm, LSt hb s₁ L (fun y => if y = Str.ofString "term" then some tm else if y = Str.ofString "numbers" then some (.ref na) else if y = Str.ofString "script" then some (.ref sc) else none) none none (some (.ref va)) (fun P => (P na (lstObj [.int n0 t0, .int n1 t1, .int n2 t2, .int n3 t3, .int n4 t4] cn) ∧ Vals P va (sbOf n0 n1 n2 n3) v0 v1 v2 v3 vm) ∧ R P tm (termTm 2 n4 0)) s') ?_ (fun z3 x3 => ?_)
  case refine_1 =>
    obtain ⟨h1, g1, k1, c1, c2, c3, D1, rfl, F1, N1, o1, d1, d2, d3, b1, p1⟩ := x2.open (fun R R' h p => ⟨h _ _ p.1, p.2.mono h⟩)
    clear x2
    k_fold
    have hn := p1.1.1
    k_steps
    unfold Halt
    refine RC.useX (term_new B 2 _ _ _ _ _ _ (by decide) (by decide) (by decide)) [_, _, _] F1 N1 o1 (wk0 F1) (fit0 (by decide)) trivial mono_true mono_R ?_
    clear F1 N1
    intro tm h9 t9 D9 F9 N9 o9 s9 W9 p9
    simp only [List.cons_append, List.nil_append] at N9
    k_steps
    rename_i h2 F2 N2
    refine (fun (q : LawJ (LSt hb s₁ L _ _ _ _ _) .next _) => ⟨q.1, tm, q.2⟩) (LSt.close0 (fun R R' h p => ⟨⟨h _ _ p.1.1, p.1.2.mono h⟩, p.2.mono h⟩) F2 N2 o9 d1 d2 d3 b1 ⟨⟨PD.sub s9 p1.1, p1.2.mono fun _ _ => PD.sub s9⟩, p9⟩)
  clear x2
  obtain ⟨tm, x3⟩ := x3
  refine exec_mid (fun s' => ∃ ba ks bs, (ks = (if n4.fmod 2 = 0 then [0, 1, 2, 3] else [3, 2, 1, 0]).filter fun k => (Sb.at (sbOf n0 n1 n2 n3) k).isSome) ∧ IntsAre bs ks ∧ LSt hb s₁ L (fun y => if y = Str.ofString "bound" then some (.ref ba) else if y = Str.ofString "term" then some tm else if y = Str.ofString "numbers" then some (.ref na) else if y = Str.ofString "script" then some (.ref sc) else none) none none (some (.ref va)) (fun P => ((P na (lstObj [.int n0 t0, .int n1 t1, .int n2 t2, .int n3 t3, .int n4 t4] cn) ∧ Vals P va (sbOf n0 n1 n2 n3) v0 v1 v2 v3 vm) ∧ R P tm (termTm 2 n4 0)) ∧ P ba (lstObj bs bs.length)) s') ?_ (fun z4 x4 => ?_)
  case refine_1 =>
    obtain ⟨h1, g1, k1, c1, c2, c3, D1, rfl, F1, N1, o1, d1, d2, d3, b1, p1⟩ := x3.open (fun R R' h p => ⟨⟨h _ _ p.1.1, p.1.2.mono h⟩, p.2.mono h⟩)
    clear x3
    k_fold
    have hn := p1.1.1.1
    have hv := p1.1.2.obj.1
    have hV := p1.1.2
    k_steps
    · unfold Halt
      rename_i hq l4 h4 F4 N4 lt4
      refine LCt.CompSrcT.ledger rfl F4 N4 (.head _) (Nat.le_of_ble_eq_true rfl) ?_
      clear F4 N4
      intro g4
      refine kci_list (bndG (sbOf n0 n1 n2 n3)) (.cons _ _ (.cons _ _ (.cons _ _ (.cons _ _ .nil)))) ?turn ?fin (bndG_grows _)
      case turn =>
        intro k t I oI C oC D m₂ ys l h tk E' hk hI hC hx F N off ne mk
        have hk0 : 0 ≤ k ∧ k < 4 := by
          simp only [List.mem_cons, List.not_mem_nil, or_false] at hk
          omega
        obtain ⟨hk0, hk4⟩ := hk0
        k_steps
        · exact ⟨_, _, _, rfl, F, N, off, .inr ⟨_, .head _, rfl, _, rfl⟩, el_yes (by assumption)⟩
        · exact ⟨_, _, _, rfl, F, N, off, .inr ⟨_, .head _, rfl, _, rfl⟩, el_no (by rw [show ((sbOf n0 n1 n2 n3).at k).isSome = false by assumption]; exact fun h => nomatch h)⟩
      case fin =>
        intro ys hI _ Dd hd tkd Fd Nd od
        exact (fun (q : LawJ (LSt hb s₁ L _ _ _ _ _) .next _) => ⟨q.1, Dd, _, ys, by rw [if_pos hq], by rw [bndG_fold] at hI; exact hI, q.2⟩) (LSt.close1 (fun R R' h p => ⟨⟨⟨h _ _ p.1.1.1, p.1.1.2.mono h⟩, p.1.2.mono h⟩, h _ _ p.2⟩) Fd (drop2 Nd) o1 (fun v h => nomatch h) d1 d2 d3 b1 ⟨⟨⟨.inr p1.1.1, p1.1.2.mono fun _ _ h => .inr h⟩, p1.2.mono fun _ _ h => .inr h⟩, .inl ⟨rfl, rfl⟩⟩)
    · unfold Halt
      rename_i hq l4 h4 F4 N4 lt4
      refine LCt.CompSrcT.ledger rfl F4 N4 (.head _) (Nat.le_of_ble_eq_true rfl) ?_
      clear F4 N4
      intro g4
      refine kci_list (bndG (sbOf n0 n1 n2 n3)) (.cons _ _ (.cons _ _ (.cons _ _ (.cons _ _ .nil)))) ?turn ?fin (bndG_grows _)
      case turn =>
        intro k t I oI C oC D m₂ ys l h tk E' hk hI hC hx F N off ne mk
        have hk0 : 0 ≤ k ∧ k < 4 := by
          simp only [List.mem_cons, List.not_mem_nil, or_false] at hk
          omega
        obtain ⟨hk0, hk4⟩ := hk0
        k_steps
        · exact ⟨_, _, _, rfl, F, N, off, .inr ⟨_, .head _, rfl, _, rfl⟩, el_yes (by assumption)⟩
        · exact ⟨_, _, _, rfl, F, N, off, .inr ⟨_, .head _, rfl, _, rfl⟩, el_no (by rw [show ((sbOf n0 n1 n2 n3).at k).isSome = false by assumption]; exact fun h => nomatch h)⟩
      case fin =>
        intro ys hI _ Dd hd tkd Fd Nd od
        exact (fun (q : LawJ (LSt hb s₁ L _ _ _ _ _) .next _) => ⟨q.1, Dd, _, ys, by rw [if_neg hq], by rw [bndG_fold] at hI; exact hI, q.2⟩) (LSt.close1 (fun R R' h p => ⟨⟨⟨h _ _ p.1.1.1, p.1.1.2.mono h⟩, p.1.2.mono h⟩, h _ _ p.2⟩) Fd (drop2 Nd) o1 (fun v h => nomatch h) d1 d2 d3 b1 ⟨⟨⟨.inr p1.1.1, p1.1.2.mono fun _ _ h => .inr h⟩, p1.2.mono fun _ _ h => .inr h⟩, .inl ⟨rfl, rfl⟩⟩)
  clear x3
  obtain ⟨ba, ks, bs, hks, hbs, x4⟩ := x4
  refine exec_mid (fun s' => ∃ sd, LSt hb s₁ L (fun y => if y = Str.ofString "bound" then some (.ref ba) else if y = Str.ofString "term" then some tm else if y = Str.ofString "numbers" then some (.ref na) else if y = Str.ofString "script" then some (.ref sc) else none) none (some (.ref sd)) (some (.ref va)) (LP n0 n1 n2 n3 n4 t0 t1 t2 t3 t4 cn na va ba sd v0 v1 v2 v3 vm tm bs ks) s') ?_ (fun z5 x5 => ?_)
  case refine_1 =>
    obtain ⟨h1, g1, k1, c1, c2, c3, D1, rfl, F1, N1, o1, d1, d2, d3, b1, p1⟩ := x4.open (fun R R' h p => ⟨⟨⟨h _ _ p.1.1.1, p.1.1.2.mono h⟩, p.1.2.mono h⟩, h _ _ p.2⟩)
    clear x4
    k_fold
    have hv := p1.1.1.2.obj.1
    have hV := p1.1.1.2
    have hb1 := p1.2.1
    k_steps
    unfold Halt
    refine .inl ⟨ba, bs.toArray, _, rfl, F1, N1, .inr ⟨_, .tail _ (.tail _ (.tail _ hb1)), rfl, _, rfl⟩, fun s2 hs => ?_⟩
    obtain ⟨g, rfl⟩ := hs
    clear F1 N1
    refine dict_turns (σ := sbOf n0 n1 n2 n3) (ks := ks) (by rw [List.size_toArray, hbs.length]) (ks_nodup hks) (fun i v _ hv => ?_) ?turn ?fin
    · obtain ⟨k, t, e, hk⟩ := IntsAre.at hbs i v (by simpa using hv)
      exact ⟨k, t, hk, e⟩
    case turn =>
      intro k t I oI C oC D m₂ h tk E' done es ep news hk hno hlen sub he hC hx F N off ne
      obtain ⟨hk0, hk4, hks4⟩ := ks_mem hks hk
      k_steps
      unfold Halt
      refine RC.useX (var_new B k t) [_, _, _] F N (of_off3 off) (wk0 F) (fit0 (by decide)) trivial mono_true mono_R ?_
      clear F N
      intro x h9 t9 D9 F9 N9 o9 s9 W9 p9
      have hc9 := s9 _ (sub _ (show (L + 1, c3) ∈ _ from .tail _ (.tail _ (.head _))))
      have hv9 := s9 _ (sub _ (.tail _ (.tail _ (.tail _ hv))))
      have hV9 := hV.mono (fun a o (y : PD D1 (fun _ => False) a o) => (⟨s9 _ (sub _ (.tail _ (.tail _ (.tail _ y.1)))), y.2⟩ : PD D9 (fun _ => False) a o))
      have he9 := he.mono (fun _ _ => PD.sub s9)
      simp only [List.cons_append, List.nil_append] at N9
      k_steps
      unfold Halt
      rename_i v9 r9
      obtain ⟨t', ht'⟩ := Option.isSome_iff_exists.mp hks4
      rw [ht'] at r9
      have hσ := (sbOf n0 n1 n2 n3).has_at hk0 hk4
      rw [ht'] at hσ
      cases p9 with
      | @var x9 dx9 hs9 t9' _ tk9 ep9 a9 b9 =>
      refine dset_var B (k := k) F9 N9 o9 ne (fit0 (by decide)) (.var a9 b9) r9 hσ he9 hno (by rw [he9.len]; have := ks_len4 hks; omega) fun h' tk' D' ep' F' N' o' s' he' rk' rv' => ?_
      exact ⟨h', tk', D', _, rfl, F', N', o', .inr ⟨_, s' _ (s9 _ (sub _ (.tail _ (.tail _ (.tail _ hb1))))), rfl, _, rfl⟩, fun p hp => s' _ (s9 _ hp), _, _, rfl, he'.snoc rk' hσ rv'⟩
    case fin =>
      intro es ep news' sub he D' h' tk' F' N' o1'
      obtain ⟨D2, N2, o2, q2⟩ := renorm N' (.tail _ (sub _ (.head _))) (.tail _ (sub _ (.tail _ (.head _)))) (.tail _ (sub _ (.tail _ (.tail _ (.head _))))) d1 d2 d3
      have q3 : ∀ a o, Nc (PD D1 fun _ => False) a o → PD D2 (fun _ => False) a o := fun a o y => q2 a o ⟨.tail _ (sub _ (.tail _ (.tail _ (.tail _ y.1.1)))), y.2⟩
      have hsub : Sub (PD D2 fun _ => False) (sbOf n0 n1 n2 n3) D' ks := ⟨⟨es, ep, q2 _ _ ⟨.head _, fun _ h => nomatch h⟩, he.nc.mono fun a o y => q2 a o ⟨.tail _ y.1.1, y.2⟩⟩, ks_nodup hks, ks_all hks⟩
      clear N'
      have q9 := (offs (L := L) o2 c2 c3).2.1
      k_steps
      rename_i h2 oc2 F2 N2 e2
      exact (fun (q : LawJ (LSt hb s₁ L _ _ _ _ _) .next _) => ⟨q.1, D', q.2⟩) (LSt.close0 (fun R R' h p => p.mono h) F2 N2 o2 d1 e2 d3 b1 ⟨q3 _ _ ⟨p1.1.1.1, fun _ h => nomatch h⟩, hV.nc.mono q3, p1.1.2.nc.mono q3, q3 _ _ ⟨p1.2, fun _ h => nomatch h⟩, hsub⟩)
  clear x4
  obtain ⟨sd, x5⟩ := x5
  obtain ⟨u, hu⟩ := law_full n0 n1 n2 n3 n4
  refine exec_mid (fun s' => ∃ due, LSt hb s₁ L (fun y => if y = Str.ofString "due" then some due else if y = Str.ofString "bound" then some (.ref ba) else if y = Str.ofString "term" then some tm else if y = Str.ofString "numbers" then some (.ref na) else if y = Str.ofString "script" then some (.ref sc) else none) none (some (.ref sd)) (some (.ref va)) (fun P => LP n0 n1 n2 n3 n4 t0 t1 t2 t3 t4 cn na va ba sd v0 v1 v2 v3 vm tm bs ks P ∧ R P due u) s') ?_ (fun z6 x6 => ?_)
  case refine_1 =>
    obtain ⟨h1, g1, k1, c1, c2, c3, D1, rfl, F1, N1, o1, d1, d2, d3, b1, p1⟩ := x5.open (fun R R' h p => p.mono h)
    clear x5
    k_fold
    k_steps
    unfold Halt
    refine RC.useX (full_of B hu _ _ _ _ _ _ _) [_, _, _] F1 N1 o1 (wk0 F1) (fit0 (by decide)) ⟨p1.term, p1.vals⟩ mono_full mono_R ?_
    clear F1 N1
    intro due h9 t9 D9 F9 N9 o9 s9 W9 p9
    simp only [List.cons_append, List.nil_append] at N9
    k_steps
    rename_i h2 F2 N2
    exact (fun (q : LawJ (LSt hb s₁ L _ _ _ _ _) .next _) => ⟨q.1, due, q.2⟩) (LSt.close0 (fun R R' h p => ⟨p.1.mono h, p.2.mono h⟩) F2 N2 o9 d1 d2 d3 b1 ⟨p1.mono fun _ _ => PD.sub s9, p9⟩)
  clear x5
  obtain ⟨due, x6⟩ := x6
  refine exec_mid (fun s' => ∃ told, LSt hb s₁ L (fun y => if y = Str.ofString "told" then some told else if y = Str.ofString "due" then some due else if y = Str.ofString "bound" then some (.ref ba) else if y = Str.ofString "term" then some tm else if y = Str.ofString "numbers" then some (.ref na) else if y = Str.ofString "script" then some (.ref sc) else none) none (some (.ref sd)) (some (.ref va)) (fun P => (LP n0 n1 n2 n3 n4 t0 t1 t2 t3 t4 cn na va ba sd v0 v1 v2 v3 vm tm bs ks P ∧ R P due u) ∧ R P told u) s') ?_ (fun z7 x7 => ?_)
  case refine_1 =>
    obtain ⟨h1, g1, k1, c1, c2, c3, D1, rfl, F1, N1, o1, d1, d2, d3, b1, p1⟩ := x6.open (fun R R' h p => ⟨p.1.mono h, p.2.mono h⟩)
    clear x6
    k_fold
    k_steps
    unfold Halt
    refine GRC.useL (reify_new B (sb_ok n0 n1 n2 n3).sb (n := 10) (by decide) hu) F1 N1 o1 (fit0 (by decide)) rfl ⟨rfl, fun q => (nomatch q), F1.above⟩ b1 ⟨p1.1.term, p1.1.sub⟩ mono_rs mono_R ?_
    clear F1 N1
    intro told h9 t9 gs9 D9 F9 N9 o9 s9 b9 p9
    k_steps
    rename_i h2 F2 N2
    exact (fun (q : LawJ (LSt hb s₁ L _ _ _ _ _) .next _) => ⟨q.1, told, q.2⟩) (LSt.close0 (fun R R' h p => ⟨⟨p.1.1.mono h, p.1.2.mono h⟩, p.2.mono h⟩) F2 N2 o9 d1 d2 d3 b9 ⟨⟨p1.1.mono fun _ _ => PD.sub s9, p1.2.mono fun _ _ => PD.sub s9⟩, p9⟩)
  clear x6
  obtain ⟨told, x7⟩ := x7
  refine exec_mid (LSt hb s₁ L (fun y => if y = Str.ofString "told" then some told else if y = Str.ofString "due" then some due else if y = Str.ofString "bound" then some (.ref ba) else if y = Str.ofString "term" then some tm else if y = Str.ofString "numbers" then some (.ref na) else if y = Str.ofString "script" then some (.ref sc) else none) none (some (.ref sd)) (some (.ref va)) (LP n0 n1 n2 n3 n4 t0 t1 t2 t3 t4 cn na va ba sd v0 v1 v2 v3 vm tm bs ks)) ?_ (fun z8 x8 => ?_)
  case refine_1 =>
    obtain ⟨h1, g1, k1, c1, c2, c3, D1, rfl, F1, N1, o1, d1, d2, d3, b1, p1⟩ := x7.open (fun R R' h p => ⟨⟨p.1.1.mono h, p.1.2.mono h⟩, p.2.mono h⟩)
    clear x7
    k_fold
    have hgu := hgt_full hu
    k_steps
    unfold Halt
    refine RO.useX (ne_ro B) [_, _, _] F1 N1 o1 (wk0 F1) (fit0 (by omega)) ⟨p1.2, p1.1.2⟩ mono_R2 (fun _ _ _ _ h => h) ?_
    clear F1 N1
    intro rb h2 k2 D2 F2 N2 o2 s2 _ rfl
    simp only [List.cons_append, List.nil_append] at N2
    k_steps
    unfold Halt
    have p2 := p1.1.1.mono fun _ _ => PD.sub s2
    have r2 := p1.2.mono fun _ _ => PD.sub s2
    have e2 := p1.1.2.mono fun _ _ => PD.sub s2
    clear p1
    refine GRC.useL (reify_new B (sb_ok n0 n1 n2 n3).sb (n := 10) (by decide) hu.idem) F2 N2 o2 (fit0 (by decide)) rfl ⟨rfl, fun q => (nomatch q), F2.above⟩ b1 ⟨r2, p2.sub⟩ mono_rs mono_R ?_
    clear F2 N2
    intro tw h3 k3 gs3 D3 F3 N3 o3 s3 b3 r3
    have p3 := p2.mono fun _ _ => PD.sub s3
    have e3 := e2.mono fun _ _ => PD.sub s3
    clear p2 r2 e2
    k_steps
    unfold Halt
    refine RO.useX (ne_ro B) [_, _, _] F3 N3 o3 (wk0 F3) (fit0 (by omega)) ⟨r3, e3⟩ mono_R2 (fun _ _ _ _ h => h) ?_
    clear F3 N3
    intro rb4 h4 k4 D4 F4 N4 o4 s4 _ e4
    subst e4
    simp only [List.cons_append, List.nil_append] at N4
    have p4 := p3.mono fun _ _ => PD.sub s4
    clear p3 e3 r3
    k_steps
    unfold Halt
    rename_i d5 h5 od5 F5 N5 lo5 hs5 fs5 hi5 fi5 l5
    obtain ⟨ep5, rfl⟩ := emp_of hi5
    obtain ⟨D6, N6, o6, q6⟩ := renorm N5 (.tail _ (.head _)) (.tail _ (.tail _ (.head _))) (.tail _ (.tail _ (.tail _ (.head _)))) d1 d2 d3
    have p6 := p4.nc.mono fun a o y => q6 a o ⟨.tail _ (.tail _ (.tail _ (.tail _ y.1.1))), y.2⟩
    have s6 := sub_emp (P := PD D6 fun _ => False) (q6 _ _ ⟨.head _, fun _ h => nomatch h⟩)
    clear N5 hs5 fs5 hi5 fi5 p4
    have hab := term_ab 2 n4 0 (by decide) (by decide)
    have hga := hgt_ab hab
    refine GRC.useL (reify_new B sb0_ok (n := 2) (by decide) (full_emp hab)) F5 N6 o6 (fit0 (by decide)) rfl ⟨rfl, fun q => (nomatch q), F5.above⟩ b3 ⟨p6.term, s6⟩ mono_rs mono_R ?_
    clear F5 N6
    intro te h7 k7 gs7 D7 F7 N7 o7 s7 b7 r7
    have p7 := p6.mono fun _ _ => PD.sub s7
    clear p6 s6
    k_steps
    unfold Halt
    refine RO.useX (ne_ro B) [_, _, _] F7 N7 o7 (wk0 F7) (fit0 (by omega)) ⟨r7, p7.term⟩ mono_R2 (fun _ _ _ _ h => h) ?_
    clear F7 N7
    intro rb8 h8 k8 D8 F8 N8 o8 s8 _ e8
    subst e8
    simp only [List.cons_append, List.nil_append] at N8
    have p8 := p7.mono fun _ _ => PD.sub s8
    clear p7 r7
    k_steps
    exact LSt.close0 (fun R R' h p => p.mono h) F8 N8 o8 d1 d2 d3 b7 p8
  clear x7
  refine exec_mid (fun s' => ∃ xa w0 w1 w2 w3 wm, LSt hb s₁ L (fun y => if y = Str.ofString "told" then some told else if y = Str.ofString "due" then some due else if y = Str.ofString "bound" then some (.ref ba) else if y = Str.ofString "term" then some tm else if y = Str.ofString "numbers" then some (.ref na) else if y = Str.ofString "script" then some (.ref sc) else none) (some (.ref xa)) (some (.ref sd)) (some (.ref va)) (fun P => LP n0 n1 n2 n3 n4 t0 t1 t2 t3 t4 cn na va ba sd v0 v1 v2 v3 vm tm bs ks P ∧ Vals P xa (sbOf n0 n1 n2 n3) w0 w1 w2 w3 wm) s') ?_ (fun z9 x9 => ?_)
  case refine_1 =>
    obtain ⟨h1, g1, k1, c1, c2, c3, D1, rfl, F1, N1, o1, d1, d2, d3, b1, p1⟩ := x8.open (fun R R' h p => p.mono h)
    clear x8
    k_fold
    k_steps
    unfold Halt
    refine RC.useX (values_new B) [_, _, _] F1 N1 o1 (wk0 F1) (fit0 (by decide)) p1.nums (fun P P' h p => h _ _ p) mono_vals ?_
    clear F1 N1
    intro v9 h9 t9 D9 F9 N9 o9 s9 W9 p9
    obtain ⟨xa, w0, w1, w2, w3, wm, rfl, hv9⟩ := p9
    simp only [List.cons_append, List.nil_append] at N9
    have q9 := (offs (L := L) o9 c2 c3).2.2
    k_steps
    rename_i h2 oc2 F2 N2 e2
    exact (fun (q : LawJ (LSt hb s₁ L _ _ _ _ _) .next _) => ⟨q.1, xa, w0, w1, w2, w3, wm, q.2⟩) (LSt.close0 (fun R R' h p => ⟨p.1.mono h, p.2.mono h⟩) F2 N2 o9 e2 d2 d3 b1 ⟨p1.mono fun _ _ => PD.sub s9, hv9⟩)
  clear x8
  obtain ⟨xa, w0, w1, w2, w3, wm, x9⟩ := x9
  obtain ⟨h1, g1, k1, c1, c2, c3, D1, rfl, F1, N1, o1, d1, d2, d3, b1, p1⟩ := x9.open (fun R R' h p => ⟨p.1.mono h, p.2.mono h⟩)
  clear x9
  k_fold
  have hn := p1.1.nums.1
  k_steps
  unfold Halt
  refine RC.useX (term_new B 2 _ _ _ _ _ _ (by decide) (by decide) (by decide)) [_, _, _] F1 N1 o1 (wk0 F1) (fit0 (by decide)) trivial mono_true mono_R ?_
  clear F1 N1
  intro tx h2 k2 D2 F2 N2 o2 s2 _ r2
  simp only [List.cons_append, List.nil_append] at N2
  have p2 := p1.1.mono fun _ _ => PD.sub s2
  have x2 := p1.2.mono fun _ _ => PD.sub s2
  clear p1 hn
  k_steps
  have hab := term_ab 2 n4 0 (by decide) (by decide)
  have hga := hgt_ab hab
  refine RO.useX (eq_ro B) [_, _, _] F2 N2 o2 (wk0 F2) (fit0 (by omega)) ⟨p2.term, r2⟩ mono_R2 (fun _ _ _ _ h => h) ?_
  clear F2 N2
  intro rb3 h3 k3 D3 F3 N3 o3 s3 _ e3
  subst e3
  simp only [List.cons_append, List.nil_append] at N3
  have p3 := p2.mono fun _ _ => PD.sub s3
  have x3 := x2.mono fun _ _ => PD.sub s3
  clear p2 x2 r2
  k_steps
  unfold Halt
  obtain ⟨es, ep, hsd, hes⟩ := p3.sub.ex
  have nsd := not_mods B (N3 _ (.tail _ (.tail _ (.tail _ hsd.1)))).2.2
  refine ListComp_K F3 rfl (by with_unfolding_all rfl) (by decide) rfl (by decide) rfl ?_
  k_steps
  refine ⟨sd, es.toArray, ep, _, rfl, nsd, F3, N3, .tail _ (.tail _ (.tail _ hsd.1)), by rw [List.size_toArray, hes.len, sizeLine_eq]; have := ks_len4 hks; omega, fun s2 hs => ?_⟩
  obtain ⟨g, rfl⟩ := hs
  clear F3 N3
  refine comp_turns (ks := ks) (fun k v => ∃ x, v = .ref x ∧ R (PD D3 fun _ => False) (.ref x) (.var k)) (fun D => PT (sbOf n0 n1 n2 n3) (PD D fun _ => False)) (fun D D' v k h x => x.mono fun _ _ => PD.sub h) (by rw [List.size_toArray, hes.len]) (fun i v _ hv => ?_) ?turn ?fin
  · obtain ⟨e, he, rfl⟩ := hv
    obtain ⟨k, x, v, t, q1, rfl, q2, _⟩ := hes.at (show es[i]? = some e by simpa using he)
    exact ⟨k, q1, x, rfl, q2⟩
  case turn =>
    intro k v I oI C oC D m₂ h tk E' ys news hk hV sub hC hx F N off ne
    obtain ⟨x, rfl, rx⟩ := hV
    obtain ⟨hk0, hk4, hks4⟩ := ks_mem hks hk
    have rx0 := rx
    cases rx with
    | @var _ dx hsx tx0 _ tkx epx ax bx =>
    have ax' := sub _ (.tail _ (.tail _ (.tail _ ax.1)))
    have bx' := sub _ (.tail _ (.tail _ (.tail _ bx.1)))
    have hc9 := sub _ (show (L + 1 + 1, c2) ∈ _ from .tail _ (.head _))
    k_steps
    unfold Halt
    obtain ⟨t', ht'⟩ := Option.isSome_iff_exists.mp hks4
    have hσ := (sbOf n0 n1 n2 n3).has_at hk0 hk4
    rw [ht'] at hσ
    have up : ∀ a o, PD D3 (fun _ => False) a o → PD news (fun _ => False) a o := fun a o y => ⟨sub _ (.tail _ (.tail _ (.tail _ y.1))), y.2⟩
    have hsd' := (up _ _ hsd).1
    refine subscriptTail_builtin (T := "dict") ⟨_, (N _ (.tail _ (.tail _ (.tail _ hsd')))).1, rfl⟩ slot_dict_getitem.lookup (RO.useX (item_op B hσ) [_, _, _] F N (of_off3 off) (wk0 F) (fit0 (by decide)) ⟨rx0.mono up, p3.sub.mono up⟩ mono_rs mono_R ?_) ?hs ?ht
    case hs => with_unfolding_all rfl
    case ht => intro _; with_unfolding_all rfl
    clear F N
    intro v9 h9 k9 D9 F9 N9 o9 s9 _ r9
    simp only [List.cons_append, List.nil_append] at N9
    k_steps
    rename_i Dt ht Ft Nt lt
    exact pair_end (n := 0) Ft Nt ⟨lt.1, lt.2.1, lt.2.2.1⟩ (off3_of o9) s9 (fun q => .tail _ (s9 _ hsd')) ht' r9
  case fin =>
    intro ys news' sub hys Dd hhd tkd Fd Nd od
    have up : ∀ a o, PD D3 (fun _ => False) a o → PD ((Dd, LCg.lst ys) :: news') (fun _ => False) a o := fun a o y => ⟨.tail _ (sub _ (.tail _ (.tail _ (.tail _ y.1)))), y.2⟩
    have hb4 := (up _ _ p3.bnd).1
    k_steps
    unfold Halt
    refine LCg.ListComp_U Fd (by with_unfolding_all rfl) (by decide) rfl (by decide) rfl ?_
    k_steps
    unfold Halt
    refine LCg.CompSrc.ledger rfl Fd Nd hb4 (by rw [List.size_toArray, hbs.length, sizeLine_eq]; have := ks_len4 hks; omega) ?_
    clear Fd Nd
    intro g4
    refine comp_turns (ks := ks) (fun k v => ∃ t, v = .int k t) (fun D => PT (sbOf n0 n1 n2 n3) (PD D fun _ => False)) (fun D D' v k h x => x.mono fun _ _ => PD.sub h) (by rw [List.size_toArray, hbs.length]) (fun i v _ hv => ?_) ?turn2 ?fin2
    · obtain ⟨k, t, e, hk⟩ := IntsAre.at hbs i v (by simpa using hv)
      exact ⟨k, hk, t, e⟩
    case turn2 =>
      intro k v I oI C oC D m₂ h tk E' zs4 news hk hV sub4 hC hx F N off ne
      obtain ⟨tv, rfl⟩ := hV
      obtain ⟨hk0, hk4, hks4⟩ := ks_mem hks hk
      have hc9 := sub4 _ (.tail _ (sub _ (show (L + 1 + 1 + 1, c1) ∈ _ from .head _)))
      have up4 : ∀ a o, PD D3 (fun _ => False) a o → PD news (fun _ => False) a o := fun a o y => ⟨sub4 _ (up a o y).1, y.2⟩
      have hx9 := (up4 _ _ x3.obj).1
      have hX9 := x3.mono up4
      k_steps
      rename_i v9 r9 Dt ht Ft Nt lt
      obtain ⟨t', ht'⟩ := Option.isSome_iff_exists.mp hks4
      rw [ht'] at r9
      exact pair_end (n := 0) Ft Nt ⟨lt.1, lt.2.1, lt.2.2.1⟩ off (fun _ h => h) (fun q => .inr ⟨_, .tail _ (sub4 _ hb4), rfl, _, rfl⟩) ht' r9
    case fin2 =>
      intro zs4 news2 sub4 hzs De he4 tke Fe Ne4 oe
      refine RO.useX (pairs_ro B (sb_ok n0 n1 n2 n3) (n := ys.length) (n2 := zs4.length) (fun k hk => ⟨(ks_mem hks hk).1, (ks_mem hks hk).2.1⟩)) [] Fe (D := (De, LCg.lst zs4) :: news2) Ne4 (fun _ _ h => nomatch h) (wk0 Fe) (fit0 (by decide)) ⟨⟨⟨.tail _ (sub4 _ (.head _)), fun h => h⟩, ⟨.head _, fun h => h⟩⟩, hys.imp fun _ _ x => x.mono fun _ _ y => ⟨.tail _ (sub4 _ (.tail _ y.1)), y.2⟩, hzs.imp fun _ _ x => x.mono fun _ _ y => ⟨.tail _ y.1, y.2⟩⟩ mono_pairs (fun _ _ _ _ h => h) ?_
      intro rb6 h6 k6 D6 F6 N6 o6 s6 _ e6
      subst e6
      exact ⟨h6, g1, k6, rfl, rfl, F6.keep, b1⟩
)
end Mine
end
set_option maxRecDepth 100000 in
set_option maxHeartbeats 8000000 in
theorem PySem.Challenge.cw_fe0177_01_holds : PySem.Challenge.rw_fe0177_01.Holds := by
  exact Mine.law0
