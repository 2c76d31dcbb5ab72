import PyProof.Rows.All
import Wide.All
import OpenK.AllK
import Wide.FinOn
import PySem.Challenge.RW_in0148_01
open PySem PySem.W PySem.Calls PyProof.Rows
set_option Elab.async false
set_option maxRecDepth 100000
set_option maxHeartbeats 4000000
namespace Mine

set_option maxHeartbeats 8000000 in
open_top hd for PySem.Challenge.rw_in0148_01

section
local macro_rules | `(tactic| walk_at "nm") => `(tactic| first
  | (with_reducible exact up_self)
  | (with_reducible refine up_ne ?_ (by decide +kernel); walk_at "nm")
  | (with_reducible refine cMap_free ?_ (by kernel_rfl); walk_at "nm")
  | (with_reducible assumption)
  | (with_reducible exact rfl))
local macro_rules | `(tactic| walk_at "ld") => `(tactic| refine InF.ld (by assumption) (by walk_at "nm") ?_)
local macro_rules | `(tactic| walk_at "ldn") => `(tactic| refine InF.ldn (by assumption) (by walk_at "nm") ?_)

def P0 : Params := { strHash := fun _ => 0, shareClass := fun _ => 0, mergeTok := id, idOf := fun _ => 0, idOfShared := fun _ _ => 0, followText := fun _ => false, idOfImm := fun _ => 0 }
noncomputable def fdAt (a : Addr) : FuncData := match (Mine.hd.heap_39 P0).lookup a with
  | some ⟨_, _, .func fd, _⟩ => fd
  | _ => default
noncomputable def bodyAt (a : Addr) : List Stmt := match (fdAt a).body with
  | .stmts b => b
  | _ => []
noncomputable abbrev fnObj (a : Addr) : Obj := { cls := .type "function", data := .func (fdAt a) }

structure Base (P : Params) (mg mb : Str → Option Value) (h : Heap) : Prop where
  g : h.Ns mainGlobals mg
  b : h.Ns builtinsNs mb
  nolimit : h.NoLimit
  boot : ∀ x : Str, x ≠ "__name__" → mb x = bootBuiltins x
  K : (Mine.hd.heap_39 P).In h

abbrev KeepAll (h h' : Heap) : Prop := ∀ b o, h.get? b = some o → h'.get? b = some o

theorem Base.keeps {P : Params} {mg mb : Str → Option Value} {h h' : Heap} (B : Base P mg mb h) (k : KeepAll h h') : Base P mg mb h' :=
  ⟨B.g.keeps k, B.b.keeps k, B.nolimit.keeps k, B.boot, B.K.keeps k⟩

/-- what a piece of code may do to the state: all that stood is kept -/
structure Mv (s s' : Shared) : Prop where
  keep : KeepAll s.heap s'.heap
  gens : ∀ (g : Nat) (x : GenState), s.gens[g]? = some x → s'.gens[g]? = some x
  bare : AllBare s.gens → AllBare s'.gens
  os : s'.os = s.os
  drawn : s'.drawn = s.drawn

theorem Mv.refl (s : Shared) : Mv s s := ⟨fun _ _ e => e, fun _ _ e => e, id, rfl, rfl⟩
theorem Mv.trans {a b c : Shared} (x : Mv a b) (y : Mv b c) : Mv a c :=
  ⟨fun _ _ e => y.keep _ _ (x.keep _ _ e), fun _ _ e => y.gens _ _ (x.gens _ _ e), fun e => y.bare (x.bare e), y.os.trans x.os, y.drawn.trans x.drawn⟩
theorem Mv.of {s : Shared} {h : Heap} {t : Nat} (k : KeepAll s.heap h) : Mv s ⟨h, s.gens, s.drawn, t, s.os⟩ := ⟨k, fun _ _ e => e, id, rfl, rfl⟩
theorem KeepAll.refl (h : Heap) : KeepAll h h := fun _ _ e => e
theorem KeepAll.trans {a b c : Heap} (x : KeepAll a b) (y : KeepAll b c) : KeepAll a c := fun _ _ e => y _ _ (x _ _ e)
theorem KeepAll.push (h : Heap) (o : Obj) : KeepAll h (h.push o) := fun _ _ e => Heap.get?_push_of_some _ e

/-- objects that are lists or tuples are kept -/
abbrev SeqK (h h' : Heap) : Prop := ∀ b o items n, o.data = .seq items n → h.get? b = some o → h'.get? b = some o
theorem KeepAll.seq {h h' : Heap} (k : KeepAll h h') : SeqK h h' := fun _ _ _ _ _ e => k _ _ e
theorem SeqK.trans {a b c : Heap} (x : SeqK a b) (y : SeqK b c) : SeqK a c := fun _ _ _ _ hd e => y _ _ _ _ hd (x _ _ _ _ hd e)
theorem SeqK.list {h h' : Heap} (k : SeqK h h') {a : Addr} {xs : Array Value} (x : h.IsList a xs) : h'.IsList a xs :=
  let ⟨o, ho, hc, n, hd⟩ := x; ⟨o, k _ _ _ _ hd ho, hc, n, hd⟩
theorem SeqK.tuple {h h' : Heap} (k : SeqK h h') {a : Addr} {xs : Array Value} (x : h.IsTuple a xs) : h'.IsTuple a xs :=
  let ⟨o, ho, hc, n, hd⟩ := x; ⟨o, k _ _ _ _ hd ho, hc, n, hd⟩

/-- what a frame is measured by: the state at its start; a heap to look back to, and what may turn since -/
structure Rf where
  heap : Heap
  gens : Array GenState
  drawn : Drawn
  os : OsState
  hr : Heap
  mu : Addr → Prop
def Rf.st (r : Rf) : Shared := ⟨r.heap, r.gens, r.drawn, 0, r.os⟩
def Rf.of (s : Shared) (hr : Heap) (mu : Addr → Prop) : Rf := ⟨s.heap, s.gens, s.drawn, s.os, hr, mu⟩
/-- look back to nothing -/
def Rf.tv (r : Rf) : Rf := { r with mu := fun _ => True }
def Rf.now (r : Rf) (h : Heap) : Rf := { r with hr := h }
def Rf.may (r : Rf) (h : Heap) (mu : Addr → Prop) : Rf := { r with hr := h, mu := mu }
/-- the frame's own objects -/
def Fslot (env : Env) (b : Addr) : Prop := b = env.locals ∨ ∃ n, env.cells.lookup n = some b

/-- a frame: its names and what they hold -/
structure InF (s₀ : Rf) (env : Env) (m : Str → Option Value) (h : Heap) (gs : Array GenState) (d : Drawn) (os : OsState) : Prop where
  ns : ∃ ml, h.Ns env.locals ml ∧ ∀ n, env.kindOf n = some .local → ml n = m n
  cell : ∀ n c, env.cells.lookup n = some c → h.IsCell c (m n)
  apart : env.cells.Pairwise fun x y => x.2 ≠ y.2
  fresh : s₀.heap.get? env.locals = none ∧ ∀ x ∈ env.cells, s₀.heap.get? x.2 = none
  keep : KeepAll s₀.heap h
  gens : ∀ (g : Nat) (x : GenState), s₀.gens[g]? = some x → gs[g]? = some x
  bare : AllBare s₀.gens → AllBare gs
  os : os = s₀.os
  drawn : d = s₀.drawn
  ref : ∀ b o, ¬ Fslot env b → ¬ s₀.mu b → s₀.hr.get? b = some o → h.get? b = some o

def upd (m : Str → Option Value) (n : Str) (v : Value) : Str → Option Value := fun y => if y = n then some v else m y
theorem up_self {m : Str → Option Value} {n : Str} {v : Value} : upd m n v n = some v := by simp [upd]
theorem up_ne {m : Str → Option Value} {n x : Str} {u : Value} {r : Option Value} (h : m x = r) (hne : (x == n) = false := by decide +kernel) : upd m n u x = r := by
  have : x ≠ n := by simpa using hne
  simp [upd, this, h]
def argM : List (Str × Value) → (Str → Option Value) → Str → Option Value
  | [], m => m
  | (n, v) :: r, m => argM r (upd m n v)

def slotOf (env : Env) (n : Str) : Option Addr := match env.kindOf n with
  | some .local => some env.locals
  | some .cell => env.cells.lookup n
  | _ => none
def canRead (env : Env) (n : Str) : Bool := env.scope.kind == .function && (n != "__debug__") && (n != "__classdict__") && match env.kindOf n with
  | some .local => true
  | some .cell => (env.cells.lookup n).isSome
  | some .free => (env.cells.lookup n).isSome
  | _ => false
def canStore (env : Env) (n : Str) : Bool := env.scope.kind == .function && match env.kindOf n with
  | some .local => (env.cells.lookup n).isNone
  | some .cell => (env.cells.lookup n).isSome
  | _ => false
def canGlob (env : Env) (n : Str) : Bool := env.scope.kind == .function && (n != "__debug__") && env.globals == mainGlobals && env.builtins == builtinsNs && env.kindOf n == some .globalImplicit

section
variable {M : Model} {A : Around} {E : Value → Shared → Prop} {s₀ : Rf} {s : Shared} {env : Env} {m : Str → Option Value} {P : Params} {mg mb : Str → Option Value}

theorem InF.mv (F : InF s₀ env m s.heap s.gens s.drawn s.os) : Mv s₀.st s := ⟨F.keep, F.gens, F.bare, F.os, F.drawn⟩
theorem InF.mvo {s₁ : Shared} {hr : Heap} {mu : Addr → Prop} (F : InF (.of s₁ hr mu) env m s.heap s.gens s.drawn s.os) : Mv s₁ s := ⟨F.keep, F.gens, F.bare, F.os, F.drawn⟩

theorem InF.grow {h h' : Heap} {gs : Array GenState} {d : Drawn} {os : OsState} (F : InF s₀ env m h gs d os) (k : KeepAll h h') : InF s₀ env m h' gs d os :=
  ⟨let ⟨ml, a, b⟩ := F.ns; ⟨ml, a.keeps k, b⟩, fun n c e => (F.cell n c e).keeps k, F.apart, F.fresh, F.keep.trans k, F.gens, F.bare, F.os, F.drawn, fun b o h1 h2 e => k _ _ (F.ref b o h1 h2 e)⟩
theorem InF.then (F : InF s₀ env m s.heap s.gens s.drawn s.os) {s' : Shared} (k : Mv s s') : InF s₀ env m s'.heap s'.gens s'.drawn s'.os :=
  ⟨let ⟨ml, a, b⟩ := F.ns; ⟨ml, a.keeps k.keep, b⟩, fun n c e => (F.cell n c e).keeps k.keep, F.apart, F.fresh, F.keep.trans k.keep, fun g x e => k.gens g x (F.gens g x e), fun e => k.bare (F.bare e), k.os.trans F.os, k.drawn.trans F.drawn, fun b o h1 h2 e => k.keep _ _ (F.ref b o h1 h2 e)⟩

theorem InF.aft {t s' : Shared} (k : Mv t s') (F : InF s₀ env m t.heap t.gens t.drawn t.os) : InF s₀ env m s'.heap s'.gens s'.drawn s'.os := F.then k

theorem InF.now {h : Heap} {gs : Array GenState} {d : Drawn} {os : OsState} (F : InF s₀ env m h gs d os) : InF (s₀.now h) env m h gs d os := ⟨F.ns, F.cell, F.apart, F.fresh, F.keep, F.gens, F.bare, F.os, F.drawn, fun _ _ _ _ e => e⟩
theorem InF.may {h : Heap} {gs : Array GenState} {d : Drawn} {os : OsState} (F : InF s₀ env m h gs d os) (mu : Addr → Prop) : InF (s₀.may h mu) env m h gs d os := ⟨F.ns, F.cell, F.apart, F.fresh, F.keep, F.gens, F.bare, F.os, F.drawn, fun _ _ _ _ e => e⟩
theorem slot_Fslot {b : Addr} {n : Str} (h : slotOf env n = some b) : Fslot env b := by
  unfold slotOf at h
  split at h
  · cases h; exact .inl rfl
  · exact .inr ⟨_, h⟩
  · cases h

theorem InF.ldn {n : Str} {v : Value} {Q : Value → Shared → Prop} (F : InF s₀ env m s.heap s.gens s.drawn s.os) (hv : m n = some v) (h : Q v s) (hc : canRead env n = true := by kernel_rfl) :
    wpAny M A (loadName env n) Q E s := by
  unfold canRead at hc
  simp only [Bool.and_eq_true, bne_iff_ne, ne_eq, beq_iff_eq] at hc
  obtain ⟨⟨⟨hk, hd⟩, hcd⟩, hr⟩ := hc
  split at hr
  · rename_i hl
    obtain ⟨ml, hn, hm⟩ := F.ns
    exact wpAny_loadName_local hk hl hn ((hm n hl).trans hv) h
  · rename_i hl
    obtain ⟨c, hc⟩ := Option.isSome_iff_exists.mp hr
    exact wpAny_loadName_cell hk hl hc (hv ▸ F.cell n c hc) h
  · rename_i hl
    obtain ⟨c, hc⟩ := Option.isSome_iff_exists.mp hr
    exact wpAny_loadName_free hk hl hc (hv ▸ F.cell n c hc) h (by simpa using hcd)
  · cases hr
theorem InF.ld {n : Str} {pos : Pos} {v : Value} {Q : Value → Shared → Prop} (F : InF s₀ env m s.heap s.gens s.drawn s.os) (hv : m n = some v) (h : Q v s) (hc : canRead env n = true := by kernel_rfl) :
    wpAny M A (eval (.Name n pos) env) Q E s := by
  refine wpAny_Name (F.ldn hv h hc) ?_
  unfold canRead at hc
  simp only [Bool.and_eq_true, bne_iff_ne, ne_eq, beq_iff_eq] at hc
  simpa using hc.1.1.2

theorem InF.glob {n : Str} {pos : Pos} {v : Value} {Q : Value → Shared → Prop} (F : InF s₀ env m s.heap s.gens s.drawn s.os) (B : Base P mg mb s₀.heap) (hv : mg n = some v) (h : Q v s) (hc : canGlob env n = true := by kernel_rfl) :
    wpAny M A (eval (.Name n pos) env) Q E s := by
  unfold canGlob at hc
  simp only [Bool.and_eq_true, bne_iff_ne, ne_eq, beq_iff_eq] at hc
  obtain ⟨⟨⟨⟨hk, hd⟩, hg⟩, hb⟩, hx⟩ := hc
  refine Name_function_global hk hx (loadGlobal_global (mg := mg) ?_ hv h) (by simpa using hd)
  rw [hg]; exact B.g.keeps F.keep
theorem InF.built {n : Str} {pos : Pos} {v : Value} {Q : Value → Shared → Prop} (F : InF s₀ env m s.heap s.gens s.drawn s.os) (B : Base P mg mb s₀.heap) (hv : mg n = none) (hbv : mb n = some v) (h : Q v s) (hc : canGlob env n = true := by kernel_rfl) :
    wpAny M A (eval (.Name n pos) env) Q E s := by
  unfold canGlob at hc
  simp only [Bool.and_eq_true, bne_iff_ne, ne_eq, beq_iff_eq] at hc
  obtain ⟨⟨⟨⟨hk, hd⟩, hg⟩, hb⟩, hx⟩ := hc
  refine Name_function_global hk hx (loadGlobal_builtin (mg := mg) (mb := mb) ?_ hv ?_ hbv h) (by simpa using hd)
  · rw [hg]; exact B.g.keeps F.keep
  · rw [hb]; exact B.b.keeps F.keep

theorem InF.seq_ne (F : InF s₀ env m s.heap s.gens s.drawn s.os) {n : Str} {c b : Addr} {o : Obj} {items : Array Value} {ep : Nat} (hs : slotOf env n = some c) (hd : o.data = .seq items ep) (ho : s.heap.get? b = some o) : b ≠ c := by
  rintro rfl
  unfold slotOf at hs
  split at hs
  · cases hs
    obtain ⟨ml, ⟨o', es, ep', ho', hd', _⟩, _⟩ := F.ns
    rw [ho] at ho'; cases ho'
    rw [hd] at hd'; cases hd'
  · obtain ⟨o', ho', hd'⟩ := F.cell n _ hs
    rw [ho] at ho'; cases ho'
    rw [hd] at hd'; cases hd'
  · cases hs

theorem InF.st0 {n : Str} {v : Value} {Q : Unit → Shared → Prop} (F : InF s₀ env m s.heap s.gens s.drawn s.os)
    (h : ∀ h' k', InF s₀ env (upd m n v) h' s.gens s.drawn s.os → SeqK s.heap h' → (∀ b o, slotOf env n ≠ some b → s.heap.get? b = some o → h'.get? b = some o) → Q () ⟨h', s.gens, s.drawn, k', s.os⟩) (hc : canStore env n = true := by kernel_rfl) :
    wpAny M A (storeName env n v) Q E s := by
  unfold canStore at hc
  simp only [Bool.and_eq_true, beq_iff_eq] at hc
  obtain ⟨hk, hr⟩ := hc
  split at hr
  · rename_i hl
    have hs : slotOf env n = some env.locals := by unfold slotOf; rw [hl]
    obtain ⟨ml, hn, hm⟩ := F.ns
    refine wpAny_storeName_local hl hn (fun h' hn' hs' => ?_) (by rw [hk]; rfl)
    have keep : ∀ b o, slotOf env n ≠ some b → s.heap.get? b = some o → h'.get? b = some o := fun b o hb e => hs'.extBut b o (fun e => hb (e ▸ hs)) e
    refine h h' _ ⟨⟨_, hn', fun y hy => ?_⟩, fun k c hkc => ?_, F.apart, F.fresh, fun b o e => ?_, F.gens, F.bare, F.os, F.drawn, fun b o h1 h2 e => keep b o (fun e' => h1 (slot_Fslot e')) (F.ref b o h1 h2 e)⟩ (fun b o items ep hd e => keep b o (fun e' => F.seq_ne e' hd e rfl) e) keep
    · unfold upd; by_cases hyn : y = n
      · simp [hyn]
      · simp only [if_neg hyn]; exact hm y hy
    · have hkn : k ≠ n := by rintro rfl; rw [hkc] at hr; cases hr
      simp only [upd, if_neg hkn]
      obtain ⟨o', ho', hd'⟩ := F.cell k c hkc
      refine ⟨o', keep _ _ (fun e => ?_) ho', hd'⟩
      rw [hs] at e; cases e
      obtain ⟨o2, es, ep', ho2, hd2, _⟩ := hn
      rw [ho'] at ho2; cases ho2
      rw [hd'] at hd2; cases hd2
    · refine keep b o (fun e' => ?_) (F.keep b o e)
      rw [hs] at e'; cases e'
      rw [F.fresh.1] at e; cases e
  · rename_i hl
    obtain ⟨c, hcl⟩ := Option.isSome_iff_exists.mp hr
    have hs : slotOf env n = some c := by unfold slotOf; rw [hl]; exact hcl
    refine wpAny_storeName_cell hk hl hcl (F.cell n c hcl) fun h' hc' hs' => ?_
    have keep : ∀ b o, slotOf env n ≠ some b → s.heap.get? b = some o → h'.get? b = some o := fun b o hb e => hs'.extBut b o (fun e => hb (e ▸ hs)) e
    refine h h' _ ⟨?_, fun k c' hkc => ?_, F.apart, F.fresh, fun b o e => ?_, F.gens, F.bare, F.os, F.drawn, fun b o h1 h2 e => keep b o (fun e' => h1 (slot_Fslot e')) (F.ref b o h1 h2 e)⟩ (fun b o items ep hd e => keep b o (fun e' => F.seq_ne e' hd e rfl) e) keep
    · obtain ⟨ml, hn, hm⟩ := F.ns
      refine ⟨ml, hn.sameBut hs' ?_, fun y hy => ?_⟩
      · rintro e
        obtain ⟨o', ho', hd'⟩ := F.cell n c hcl
        obtain ⟨o2, es, ep', ho2, hd2, _⟩ := hn
        rw [e, ho'] at ho2; cases ho2
        rw [hd'] at hd2; cases hd2
      · have hyn : y ≠ n := by rintro rfl; rw [hl] at hy; cases hy
        simp only [upd, if_neg hyn]; exact hm y hy
    · unfold upd; by_cases hkn : k = n
      · subst hkn
        rw [hcl] at hkc; cases hkc
        simpa using hc'
      · rw [if_neg hkn]
        exact (F.cell k c' hkc).sameBut hs' fun e => hkn (name_of_addr F.apart (mem_of_lookup hkc) (e ▸ mem_of_lookup hcl))
    · refine keep b o (fun e' => ?_) (F.keep b o e)
      rw [hs] at e'; cases e'
      rw [F.fresh.2 _ (mem_of_lookup hcl)] at e; cases e
  · cases hr

theorem InF.st {h : Heap} {gs : Array GenState} {d : Drawn} {k : Nat} {os : OsState} {n : Str} {v : Value} {Q : Unit → Shared → Prop} (F : InF s₀ env m h gs d os)
    (hq : ∀ h' k', InF s₀ env (upd m n v) h' gs d os → SeqK h h' → (∀ b o, slotOf env n ≠ some b → h.get? b = some o → h'.get? b = some o) → Q () ⟨h', gs, d, k', os⟩) (hc : canStore env n = true := by kernel_rfl) :
    wpAny M A (storeName env n v) Q E ⟨h, gs, d, k, os⟩ := by
  refine InF.st0 (s := ⟨h, gs, d, k, os⟩) F (fun h' k' f a b => hq h' k' f a b) hc

theorem bindL_arg {k : Str → Option NameKind} : ∀ {binds : List (Str × Value)} {ma m' : Str → Option Value} {n : Str}, k n = some .local → ma n = m' n → bindL k binds ma n = argM binds m' n
  | [], _, _, _, _, e => e
  | (n', v) :: r, ma, m', n, hl, e => by
    unfold bindL argM
    refine bindL_arg hl ?_
    by_cases hn : n = n'
    · subst hn; simp [hl, upd]
    · by_cases hl' : k n' = some .local
      · simp [hl', upd, hn, e]
      · simp [hl', upd, hn, e]
theorem bindC_arg {k : Str → Option NameKind} : ∀ {binds : List (Str × Value)} {ma m' : Str → Option Value} {n : Str}, k n ≠ some .local → ma n = m' n → bindC k binds ma n = argM binds m' n
  | [], _, _, _, _, e => e
  | (n', v) :: r, ma, m', n, hl, e => by
    unfold bindC argM
    refine bindC_arg hl ?_
    by_cases hn : n = n'
    · subst hn; simp [hl, upd]
    · by_cases hl' : k n' = some .local
      · simp [hl', upd, hn, e]
      · simp [hl', upd, hn, e]
end

section
variable {prog : Program} {w : World} {A : Around} {E : Value → Shared → Prop} {s : Shared} {P : Params} {mg mb : Str → Option Value}
/-- a call of one of the text's own defs, arguments by position -/
theorem call_own {a : Addr} {vals : List Value} {binds : List (Str × Value)} {Q : Value → Shared → Prop} (B : Base P mg mb s.heap) (hroom : A.depth < recursionLimit)
    (ho : s.heap.get? a = some (fnObj a)) (hcd : s.heap.CodeRec (fdAt a).code (fdAt a).qualname)
    (hbody : (fdAt a).body = .stmts (bodyAt a)) (hbind : bindArgs (fdAt a) ⟨vals, []⟩ = pure binds)
    (hkind₀ : ∀ L, (binds.all fun x => (fdAt a).scope.names.lookup x.1 == some .local || ((fdAt a).scope.names.lookup x.1 == some .cell && ((cellsFrom (L + 1) (fdAt a).scope.names []).lookup x.1).isSome)) = true)
    (h : ∀ L s₁, L = s.heap.objs.size → InF (.of s s.heap fun _ => False) (callEnvC (fdAt a) L a) (argM binds fun _ => none) s₁.heap s₁.gens s₁.drawn s₁.os → 
      wpAny (model prog w) (A.deeper (callEnvC (fdAt a) L a)) (execs (bodyAt a) (callEnvC (fdAt a) L a)) (fun f s' => Q (match f with | .ret v => v | _ => .none) s') (fun _ _ => False) s₁)
    (hclo : (fdAt a).closure = [] := by kernel_rfl)
    (hcells : ∀ L, ((callEnvC (fdAt a) L a).cells.all fun x => (callEnvC (fdAt a) L a).kindOf x.1 != some .local) = true := by intro _; kernel_rfl)
    (hco : (fdAt a).scope.isCoroutine = false := by kernel_rfl) (hgen : (fdAt a).scope.isGenerator = false := by kernel_rfl) (hk : (fdAt a).scope.kind = .function := by kernel_rfl) :
    wpAny (model prog w) A (call (.ref a) vals) Q E s := by
  have hkind : ∀ x ∈ binds, (fdAt a).scope.names.lookup x.1 = some .local ∨ ((fdAt a).scope.names.lookup x.1 = some .cell ∧ ((cellsFrom (s.heap.objs.size + 1) (fdAt a).scope.names []).lookup x.1).isSome = true) := fun x hx => by
    have := List.all_eq_true.mp (hkind₀ s.heap.objs.size) x hx
    simpa using this
  refine wpAny_call (codeAny_call_cells hroom ho rfl B.nolimit hcd hbody hbind hclo hkind (fun s₁ x => ?_) hco hgen hk)
  have hC := List.all_eq_true.mp (hcells s.heap.objs.size)
  obtain ⟨h₁, tk, e⟩ := x.toInCall.same
  have fr : ∀ b, s.heap.objs.size ≤ b → s.heap.get? b = none := fun b hb => by
    cases e : s.heap.get? b with
    | none => rfl
    | some o => exact absurd (Heap.lt_size e) (Nat.not_lt.mpr hb)
  refine wpAny_mono (h _ s₁ rfl ⟨⟨_, x.toInCall.ns, fun n hl => bindL_arg hl rfl⟩, fun n c hc => ?_, x.apart, ⟨fr _ (Nat.le_refl _), fun y hy => fr _ (Nat.le_of_lt (x.above y.1 y.2 hy))⟩, x.toInCall.keep, ?_, ?_, ?_, ?_, fun b o _ _ e => x.toInCall.keep b o e⟩) (fun f s' q => q) (fun _ _ q => q.elim)
  · have hnl : (callEnvC (fdAt a) s.heap.objs.size a).kindOf n ≠ some .local := by simpa using hC _ (mem_of_lookup hc)
    rw [← bindC_arg (binds := binds) (ma := fun _ => none) hnl rfl]
    exact x.cell n c hc
  · subst e; exact fun _ _ q => q
  · subst e; exact id
  · subst e; rfl
  · subst e; rfl
end

end

section
local macro_rules | `(tactic| walk_at "nm") => `(tactic| first
  | (with_reducible exact up_self)
  | (with_reducible refine up_ne ?_ (by decide +kernel); walk_at "nm")
  | (with_reducible refine cMap_free ?_ (by kernel_rfl); walk_at "nm")
  | (with_reducible assumption)
  | (with_reducible exact rfl))
local macro_rules | `(tactic| walk_at "ld") => `(tactic| refine InF.ld (by assumption) (by walk_at "nm") ?_)
local macro_rules | `(tactic| walk_at "ldn") => `(tactic| refine InF.ldn (by assumption) (by walk_at "nm") ?_)
section
variable {prog : Program} {w : World} {A : Around} {E : Value → Shared → Prop} {s : Shared} {env : Env} {pos : Pos} {Q : Value → Shared → Prop}

theorem cw1 {f : Value} {first : List Value} {e : Expr} (h : wpAny (model prog w) A (eval e env) (fun v s₁ => wpAny (model prog w) A (call f (first ++ [v])) Q E s₁) E s)
    (hs : backTo pos (starEach [e] env) = [(false, eval e env)]) (hf : (∃ id, f = .builtin id) ∨ (∃ T, f = .type T)) :
    wpAny (model prog w) A (callWith pos f first (backTo pos (starEach [e] env)) []) Q E s := by
  rw [hs]
  rcases hf with ⟨id, rfl⟩ | ⟨T, rfl⟩
  · exact callWith_builtin rfl (evalArgs_plain (spliced_cons (wpAny_mono h (fun _ _ h₁ => spliced_nil h₁) fun _ _ e => e)))
  · exact PySem.callWith_type rfl (evalArgs_plain (spliced_cons (wpAny_mono h (fun _ _ h₁ => spliced_nil h₁) fun _ _ e => e)))
theorem cw2 {f : Value} {first : List Value} {e₁ e₂ : Expr} (h : wpAny (model prog w) A (eval e₁ env) (fun v s₁ => wpAny (model prog w) A (eval e₂ env) (fun u s₂ => wpAny (model prog w) A (call f (first ++ [v, u])) Q E s₂) E s₁) E s)
    (hs : backTo pos (starEach [e₁, e₂] env) = [(false, eval e₁ env), (false, eval e₂ env)]) (hf : (∃ id, f = .builtin id) ∨ (∃ T, f = .type T)) :
    wpAny (model prog w) A (callWith pos f first (backTo pos (starEach [e₁, e₂] env)) []) Q E s := by
  rw [hs]
  rcases hf with ⟨id, rfl⟩ | ⟨T, rfl⟩
  · exact callWith_builtin rfl (evalArgs_plain (spliced_cons (wpAny_mono h (fun _ _ h₁ => spliced_cons (wpAny_mono h₁ (fun _ _ h₂ => spliced_nil h₂) fun _ _ e => e)) fun _ _ e => e)))
  · exact PySem.callWith_type rfl (evalArgs_plain (spliced_cons (wpAny_mono h (fun _ _ h₁ => spliced_cons (wpAny_mono h₁ (fun _ _ h₂ => spliced_nil h₂) fun _ _ e => e)) fun _ _ e => e)))
theorem cwF1 {a : Addr} {o : Obj} {fd : FuncData} {first : List Value} {e : Expr} (h : wpAny (model prog w) A (eval e env) (fun v s₁ => (s₁.heap.get? a = some o ∧ o.data = .func fd) ∧ wpAny (model prog w) A (call (.ref a) (first ++ [v])) Q E s₁) E s)
    (hs : backTo pos (starEach [e] env) = [(false, eval e env)]) :
    wpAny (model prog w) A (callWith pos (.ref a) first (backTo pos (starEach [e] env)) []) Q E s := by
  rw [hs]
  exact callWith_function (evalArgs_plain (spliced_cons (wpAny_mono h (fun _ _ h₁ => spliced_nil h₁) fun _ _ e => e)))
theorem cwF2 {a : Addr} {o : Obj} {fd : FuncData} {first : List Value} {e₁ e₂ : Expr} (h : wpAny (model prog w) A (eval e₁ env) (fun v s₁ => wpAny (model prog w) A (eval e₂ env) (fun u s₂ => (s₂.heap.get? a = some o ∧ o.data = .func fd) ∧ wpAny (model prog w) A (call (.ref a) (first ++ [v, u])) Q E s₂) E s₁) E s)
    (hs : backTo pos (starEach [e₁, e₂] env) = [(false, eval e₁ env), (false, eval e₂ env)]) :
    wpAny (model prog w) A (callWith pos (.ref a) first (backTo pos (starEach [e₁, e₂] env)) []) Q E s := by
  rw [hs]
  exact callWith_function (evalArgs_plain (spliced_cons (wpAny_mono h (fun _ _ h₁ => spliced_cons (wpAny_mono h₁ (fun _ _ h₂ => spliced_nil h₂) fun _ _ e => e)) fun _ _ e => e)))

/-- f(e) with f a built-in or a type -/
theorem call1 {x : Str} {p : Pos} {e : Expr} (h : wpAny (model prog w) A (eval (.Name x p) env) (fun f s₁ => ((∃ id, f = .builtin id) ∨ (∃ T, f = .type T)) ∧ wpAny (model prog w) A (eval e env) (fun v s₂ => wpAny (model prog w) A (call f [v]) Q E s₂) E s₁) E s)
    (hs : backTo pos (starEach [e] env) = [(false, eval e env)] := by rfl) : wpAny (model prog w) A (eval (.Call (.Name x p) [e] [] pos) env) Q E s :=
  wpAny_Call_NameR (wpAny_mono h (fun _ _ h₁ => cw1 h₁.2 hs h₁.1) fun _ _ e => e)
theorem call2 {x : Str} {p : Pos} {e₁ e₂ : Expr} (h : wpAny (model prog w) A (eval (.Name x p) env) (fun f s₁ => ((∃ id, f = .builtin id) ∨ (∃ T, f = .type T)) ∧ wpAny (model prog w) A (eval e₁ env) (fun v s₂ => wpAny (model prog w) A (eval e₂ env) (fun u s₃ => wpAny (model prog w) A (call f [v, u]) Q E s₃) E s₂) E s₁) E s)
    (hs : backTo pos (starEach [e₁, e₂] env) = [(false, eval e₁ env), (false, eval e₂ env)] := by rfl) : wpAny (model prog w) A (eval (.Call (.Name x p) [e₁, e₂] [] pos) env) Q E s :=
  wpAny_Call_NameR (wpAny_mono h (fun _ _ h₁ => cw2 h₁.2 hs h₁.1) fun _ _ e => e)
/-- f(e) with f a def of the text -/
theorem callF1 {x : Str} {p : Pos} {e : Expr} (h : wpAny (model prog w) A (eval (.Name x p) env) (fun f s₁ => ∃ a, f = .ref a ∧ wpAny (model prog w) A (eval e env) (fun v s₂ => (∃ o fd, s₂.heap.get? a = some o ∧ o.data = .func fd) ∧ wpAny (model prog w) A (call f [v]) Q E s₂) E s₁) E s)
    (hs : backTo pos (starEach [e] env) = [(false, eval e env)] := by rfl) : wpAny (model prog w) A (eval (.Call (.Name x p) [e] [] pos) env) Q E s := by
  refine wpAny_Call_NameR (wpAny_mono h (fun f s₁ h₁ => ?_) fun _ _ e => e)
  obtain ⟨a, rfl, h₁⟩ := h₁
  unfold callWith
  rw [hs]
  refine wpAny_bind (wpAny_holding (evalArgs_plain (spliced_cons (wpAny_mono h₁ (fun v s₂ h₂ => spliced_nil (wpAny_bind (wpAny_standAt ?_))) fun _ _ e => e))))
  obtain ⟨⟨o, fd, ho, hd⟩, hc⟩ := h₂
  refine wpAny_bind (m := keeperOf (.ref a)) ?_
  unfold keeperOf
  refine wpAny_bind (wpAny_load ho ?_)
  rw [hd]
  refine wpAny_pure ?_
  have tail : ∀ {t : Sem Value}, wpAny (model prog w) A t Q E s₂ → wpAny (model prog w) A (t >>= fun r => holding [r] point >>= fun _ => pure r) Q E s₂ :=
    fun ht => wpAny_bind (wpAny_mono ht (fun r s₂ hr => wpAny_bind (wpAny_holding (wpAny_point (wpAny_pure hr)))) fun _ _ x => x)
  first
    | exact tail (by unfold callMarked; exact Calls.wpAny_keep hc)
    | exact tail hc
theorem callF2 {x : Str} {p : Pos} {e₁ e₂ : Expr} (h : wpAny (model prog w) A (eval (.Name x p) env) (fun f s₁ => ∃ a, f = .ref a ∧ wpAny (model prog w) A (eval e₁ env) (fun v s₂ => wpAny (model prog w) A (eval e₂ env) (fun u s₃ => (∃ o fd, s₃.heap.get? a = some o ∧ o.data = .func fd) ∧ wpAny (model prog w) A (call f [v, u]) Q E s₃) E s₂) E s₁) E s)
    (hs : backTo pos (starEach [e₁, e₂] env) = [(false, eval e₁ env), (false, eval e₂ env)] := by rfl) : wpAny (model prog w) A (eval (.Call (.Name x p) [e₁, e₂] [] pos) env) Q E s := by
  refine wpAny_Call_NameR (wpAny_mono h (fun f s₁ h₁ => ?_) fun _ _ e => e)
  obtain ⟨a, rfl, h₁⟩ := h₁
  unfold callWith
  rw [hs]
  refine wpAny_bind (wpAny_holding (evalArgs_plain (spliced_cons (wpAny_mono h₁ (fun v s₂ h₂ => spliced_cons (wpAny_mono h₂ (fun u s₃ h₃ => spliced_nil (wpAny_bind (wpAny_standAt ?_))) fun _ _ e => e)) fun _ _ e => e))))
  obtain ⟨⟨o, fd, ho, hd⟩, hc⟩ := h₃
  refine wpAny_bind (m := keeperOf (.ref a)) ?_
  unfold keeperOf
  refine wpAny_bind (wpAny_load ho ?_)
  rw [hd]
  refine wpAny_pure ?_
  have tail : ∀ {t : Sem Value}, wpAny (model prog w) A t Q E s₃ → wpAny (model prog w) A (t >>= fun r => holding [r] point >>= fun _ => pure r) Q E s₃ :=
    fun ht => wpAny_bind (wpAny_mono ht (fun r s₂ hr => wpAny_bind (wpAny_holding (wpAny_point (wpAny_pure hr)))) fun _ _ x => x)
  first
    | exact tail (by unfold callMarked; exact Calls.wpAny_keep hc)
    | exact tail hc

/-- o[i] -/
theorem sub {value slice : Expr} (h : wpAny (model prog w) A (eval value env) (fun o s₁ => wpAny (model prog w) A (eval slice env) (fun i s₂ => ∃ T id, s₂.TypeIs o T ∧ typeLookup (.type T) "__getitem__" = pure (some (.builtin id)) ∧
      wpAny (model prog w) A (getItem o i) Q E s₂) E s₁) E s)
    (hsl : ∀ o i, subscripted slice false o i = operate [o, i] (getItem o i) ∨ subscripted slice false o i = operate [i, o] (getItem o i) := by intro _ _; first | exact .inl rfl | exact .inr rfl) :
    wpAny (model prog w) A (eval (.Subscript value slice pos) env) Q E s := by
  rw [eval_Subscript]
  refine wpAny_bind (wpAny_mono h (fun o s₁ h₁ => wpAny_bind (wpAny_holding (wpAny_mono h₁ (fun i s₂ h₂ => wpAny_bind (wpAny_standAt ?_)) fun _ _ x => x))) fun _ _ x => x)
  obtain ⟨T, id, hT, hl, hg⟩ := h₂
  refine wpAny_bind ?_
  rw [getitemInPython_of_ne hT.not_modules]
  refine wpAny_bind (wpAny_specialOf hT hl ?_)
  have key : wpAny (model prog w) A (subscripted slice false o i) (fun r s₃ => wpAny (model prog w) A (do letTemporaryGo value o r; pure r) Q E s₃) E s₂ := by
    rcases hsl o i with e | e <;> rw [e] <;>
      exact wpAny_operating (wpAny_mono hg (fun r s₃ h₃ => wpAny_bind (wpAny_letTemporaryGo (wpAny_pure h₃))) fun _ _ x => x)
  exact wpAny_pure (wpAny_bind key)

theorem subList {value slice : Expr} (h : wpAny (model prog w) A (eval value env) (fun o s₁ => wpAny (model prog w) A (eval slice env) (fun i s₂ => ∃ a items k t x, o = .ref a ∧ i = .int k t ∧ s₂.heap.IsList a items ∧ 0 ≤ k ∧ k < 2 ^ 63 ∧ items[k.toNat]? = some x ∧
      Q x s₂) E s₁) E s)
    (hsl : ∀ o i, subscripted slice false o i = operate [o, i] (getItem o i) ∨ subscripted slice false o i = operate [i, o] (getItem o i) := by intro _ _; first | exact .inl rfl | exact .inr rfl) :
    wpAny (model prog w) A (eval (.Subscript value slice pos) env) Q E s := by
  refine sub (wpAny_mono h (fun o s₁ h₁ => wpAny_mono h₁ (fun i s₂ h₂ => ?_) fun _ _ x => x) fun _ _ x => x) hsl
  obtain ⟨a, items, k, t, x, rfl, rfl, hl, h0, hk, hx, hq⟩ := h₂
  exact ⟨_, _, hl.typeIs, F.slot_list_getitem.lookup, wpAny_getItem_list hl h0 hk hx hq⟩

/-- a slice of a text -/
theorem subSlice {value : Expr} {lower upper : Option Expr} {p : Pos} (h : wpAny (model prog w) A (eval value env) (fun o s₁ => wpAny (model prog w) A (evalPart lower env) (fun vl s₂ => wpAny (model prog w) A (evalPart upper env) (fun vu s₃ =>
      ∃ x t l u, o = .str x t ∧ vl = partValue l ∧ vu = partValue u ∧ x.length ≤ sizeLine ∧ ∀ t' k, Q (.str (Txt.slice x (l.map (·.1)) (u.map (·.1))) t') { s₃ with heap := s₃.heap.push { cls := .type "slice", data := .fields #[vl, vu, .none] }, toks := k }) E s₂) E s₁) E s)
    (ht : ∀ o r, letTemporaryGo value o r = pure () := by intro _ _; rfl) :
    wpAny (model prog w) A (eval (.Subscript value (.Slice lower upper none p) pos) env) Q E s := by
  refine wpAny_Subscript_str_slice (wpAny_mono h (fun o s₁ h₁ => wpAny_mono h₁ (fun vl s₂ h₂ => wpAny_mono h₂ (fun vu s₃ h₃ => ?_) fun _ _ e => e) fun _ _ e => e) fun _ _ e => e) ht
  obtain ⟨x, t, l, u, rfl, rfl, rfl, hsz, hq⟩ := h₃
  exact ⟨x, t, l, u, rfl, rfl, rfl, post_val_or_str ⟨Nat.le_trans (Txt.slice_le x _ _) hsz, fun t' k => hq t' k⟩⟩
end

theorem room_of {A : Around} {n : Nat} (h : A.depth + n < recursionLimit) : A.depth < recursionLimit := by omega
theorem deeper_depth (A : Around) (env : Env) : (A.deeper env).depth = A.depth + 1 := rfl
theorem deeper_handled (A : Around) (env : Env) : (A.deeper env).handled = A.handled := rfl

section
variable {P : Params} {mg mb : Str → Option Value} {h : Heap}
theorem Base.fn78 (B : Base P mg mb h) : h.get? 78 = some (fnObj 78) := B.K _ _ (by kernel_rfl)
theorem Base.cd78 (B : Base P mg mb h) : h.CodeRec (fdAt 78).code (fdAt 78).qualname := codeRec_of B.K (by kernel_rfl)
theorem Base.fn85 (B : Base P mg mb h) : h.get? 85 = some (fnObj 85) := B.K _ _ (by kernel_rfl)
theorem Base.cd85 (B : Base P mg mb h) : h.CodeRec (fdAt 85).code (fdAt 85).qualname := codeRec_of B.K (by kernel_rfl)
theorem Base.fn92 (B : Base P mg mb h) : h.get? 92 = some (fnObj 92) := B.K _ _ (by kernel_rfl)
theorem Base.cd92 (B : Base P mg mb h) : h.CodeRec (fdAt 92).code (fdAt 92).qualname := codeRec_of B.K (by kernel_rfl)
end

end

section
local macro_rules | `(tactic| walk_at "nm") => `(tactic| first
  | (with_reducible exact up_self)
  | (with_reducible refine up_ne ?_ (by decide +kernel); walk_at "nm")
  | (with_reducible refine cMap_free ?_ (by kernel_rfl); walk_at "nm")
  | (with_reducible assumption)
  | (with_reducible exact rfl))
local macro_rules | `(tactic| walk_at "ld") => `(tactic| refine InF.ld (by assumption) (by walk_at "nm") ?_)
local macro_rules | `(tactic| walk_at "ldn") => `(tactic| refine InF.ldn (by assumption) (by walk_at "nm") ?_)
section
variable {prog : Program} {w : World} {A : Around} {E : Value → Shared → Prop} {env : Env} {pos : Pos} {Q : Value → Shared → Prop} {h : Heap} {gs : Array GenState} {d : Drawn} {k : Nat} {os : OsState}

theorem lt_of_get {h : Heap} {a : Addr} {o : Obj} (e : h.get? a = some o) : a ≠ h.objs.size := Nat.ne_of_lt (Heap.lt_size e)
theorem fresh_size (h : Heap) : h.get? h.objs.size = none := by
  cases e : h.get? h.objs.size with
  | none => rfl
  | some o => exact absurd (Heap.lt_size e) (Nat.lt_irrefl _)
theorem extBut_keep {h h' : Heap} (x : Heap.ExtBut h.objs.size h h') : KeepAll h h' := fun b o e => x b o (lt_of_get e) e

-- constants
theorem x_int {i : Int} {kd : Nat} (hq : ∀ t k', Q (.int i t) ⟨h, gs, d, k', os⟩) : wpAny (model prog w) A (eval (.Constant (.int i) kd pos) env) Q E ⟨h, gs, d, k, os⟩ := wpAny_Constant_int (hq _ _)
theorem x_str {x : Str} {kd : Nat} (hq : ∀ t k', Q (.str x t) ⟨h, gs, d, k', os⟩) : wpAny (model prog w) A (eval (.Constant (.str x) kd pos) env) Q E ⟨h, gs, d, k, os⟩ := Constant_str (hq _ _)
-- ints
variable {a b : Int} {t u : Tok}
theorem x_add (hq : ∀ t k', Q (.int (a + b) t) ⟨h, gs, d, k', os⟩) : wpAny (model prog w) A (binaryOp .Add (.int a t) (.int b u)) Q E ⟨h, gs, d, k, os⟩ := PySem.P.add_int (hq _ _)
theorem x_sub (hq : ∀ t k', Q (.int (a - b) t) ⟨h, gs, d, k', os⟩) : wpAny (model prog w) A (binaryOp .Sub (.int a t) (.int b u)) Q E ⟨h, gs, d, k, os⟩ := PySem.P.sub_int (hq _ _)
theorem x_mul (hm : IntMulOk a b) (hq : ∀ t k', Q (.int (a * b) t) ⟨h, gs, d, k', os⟩) : wpAny (model prog w) A (binaryOp .Mult (.int a t) (.int b u)) Q E ⟨h, gs, d, k, os⟩ := PySem.P.mul_int (hq _ _) hm
theorem x_neg (hq : ∀ t k', Q (.int (-a) t) ⟨h, gs, d, k', os⟩) : wpAny (model prog w) A (unaryOp .USub (.int a t)) Q E ⟨h, gs, d, k, os⟩ := PySem.P.neg_int (hq _ _)
theorem x_mod (hb : b ≠ 0) (hq : ∀ t k', Q (.int (a.fmod b) t) ⟨h, gs, d, k', os⟩) : wpAny (model prog w) A (binaryOp .Mod (.int a t) (.int b u)) Q E ⟨h, gs, d, k, os⟩ := mod_int' hb (hq _ _)
theorem noPyl {b : Int} (hb : b ≠ 0) (h : b.natAbs < 2 ^ 64) (a : Int) : Builtin.divisionGoesByPylong a b = false :=
  PyProof.noPylong_of_log2 (Nat.lt_of_lt_of_le ((Nat.log2_lt (by omega)).mpr h) (by decide))
theorem x_fdiv (hb : b ≠ 0) (hs : b.natAbs < 2 ^ 64) (hq : ∀ t k', Q (.int (a.fdiv b) t) ⟨h, gs, d, k', os⟩) : wpAny (model prog w) A (binaryOp .FloorDiv (.int a t) (.int b u)) Q E ⟨h, gs, d, k, os⟩ :=
  PyProof.Rows.floordiv_int hb (hq _ _) (Or.inl (noPyl hb hs a))
theorem x_divmod (hb : b ≠ 0) (hs : b.natAbs < 2 ^ 64) (hq : ∀ T h' t u k', KeepAll h h' → h.get? T = none → h'.IsTuple T #[.int (a.fdiv b) t, .int (a.fmod b) u] → Q (.ref T) ⟨h', gs, d, k', os⟩) :
    wpAny (model prog w) A (call (.builtin "divmod") [.int a t, .int b u]) Q E ⟨h, gs, d, k, os⟩ :=
  PyProof.Rows.divmod_int hb (hq _ _ _ _ _ (KeepAll.push _ _) (fresh_size h) ⟨_, Heap.get?_push_size _ rfl, rfl, _, rfl⟩) (Or.inl (noPyl hb hs a))
-- texts
variable {x y : Str}
theorem x_adds (hsz : (x ++ y).length ≤ sizeLine) (hq : ∀ t k', Q (.str (x ++ y) t) ⟨h, gs, d, k', os⟩) : wpAny (model prog w) A (binaryOp .Add (.str x t) (.str y u)) Q E ⟨h, gs, d, k, os⟩ := by
  refine PySem.P.add_str ?_
  have em : ∀ z : Str, (z.length == 0) = true → z = Str.empty := fun z hz => by
    obtain ⟨c⟩ := z
    have : c = #[] := Array.eq_empty_of_size_eq_zero (by simpa [Str.length] using hz)
    subst this; rfl
  split
  · rename_i hx
    have e := em x hx
    have := hq u k; rw [e, Str.empty_append] at this; exact this
  · split
    · rename_i hy
      have e := em y hy
      have := hq t k; rw [e, Str.append_empty] at this; exact this
    · exact ⟨hsz, hq _ _⟩
theorem x_iadds (hsz : (x ++ y).length ≤ sizeLine) (hq : ∀ t k', Q (.str (x ++ y) t) ⟨h, gs, d, k', os⟩) : wpAny (model prog w) A (inplaceOp .Add (.str x t) (.str y u)) Q E ⟨h, gs, d, k, os⟩ := by
  refine PySem.P.iadd_str ?_
  have em : ∀ z : Str, (z.length == 0) = true → z = Str.empty := fun z hz => by
    obtain ⟨c⟩ := z
    have : c = #[] := Array.eq_empty_of_size_eq_zero (by simpa [Str.length] using hz)
    subst this; rfl
  split
  · rename_i hx
    have e := em x hx
    have := hq u k; rw [e, Str.empty_append] at this; exact this
  · split
    · rename_i hy
      have e := em y hy
      have := hq t k; rw [e, Str.append_empty] at this; exact this
    · exact ⟨hsz, hq _ _⟩
theorem x_muls {n : Int} (hok : MulOk x n) (hq : ∀ t k', Q (.str (Txt.mul x n) t) ⟨h, gs, d, k', os⟩) : wpAny (model prog w) A (binaryOp .Mult (.str x t) (.int n u)) Q E ⟨h, gs, d, k, os⟩ := SB.mul hok fun _ _ => hq _ _
theorem x_truthys {Qb : Bool → Shared → Prop} (hf : x.length ≤ 1000) (hq : ∀ k', Qb ((x.length : Int) != 0) ⟨h, gs, d, k', os⟩) : wpAny (model prog w) A (truthy (.str x t)) Qb E ⟨h, gs, d, k, os⟩ :=
  PySem.P.truthy_str (by omega) (hq _)
theorem x_lens (hf : x.length ≤ 1000) (hq : ∀ t k', Q (.int x.length t) ⟨h, gs, d, k', os⟩) : wpAny (model prog w) A (call (.builtin "len") [.str x t]) Q E ⟨h, gs, d, k, os⟩ :=
  PySem.P.len_str (by omega) (hq _ _)
theorem x_lenl {l : Addr} {items : Array Value} (hl : h.IsList l items) (hf : items.size ≤ 1000) (hq : ∀ t k', Q (.int items.size t) ⟨h, gs, d, k', os⟩) : wpAny (model prog w) A (call (.builtin "len") [.ref l]) Q E ⟨h, gs, d, k, os⟩ :=
  call_len_list hl (by omega) (hq _ _)
-- displays
theorem x_tuple2 {e₁ e₂ : Expr} {kd : Nat} (hh : wpAny (model prog w) A (eval e₁ env) (fun v s₁ => wpAny (model prog w) A (eval e₂ env) (fun u s₂ => match s₂ with | ⟨h, gs, d, k, os⟩ => ∀ T h', KeepAll h h' → h.get? T = none → h'.IsTuple T #[v, u] → Q (.ref T) ⟨h', gs, d, k, os⟩) E s₁) E ⟨h, gs, d, k, os⟩)
    (hs₁ : starEach (e₁ :: [e₂]) env = (false, eval e₁ env) :: starEach [e₂] env := by rfl) (hs₂ : starEach (e₂ :: []) env = (false, eval e₂ env) :: starEach [] env := by rfl) :
    wpAny (model prog w) A (eval (.Tuple [e₁, e₂] kd pos) env) Q E ⟨h, gs, d, k, os⟩ :=
  wpAny_Tuple (wpAny_items_cons (wpAny_mono hh (fun v s₁ h₁ => wpAny_items_cons (wpAny_mono h₁ (fun u s₂ h₂ => wpAny_items_nil ⟨(by show 2 ≤ sizeLine; decide), h₂ _ _ (KeepAll.push _ _) (fresh_size _) ⟨_, Heap.get?_push_size _ rfl, rfl, _, rfl⟩⟩) fun _ _ e => e) hs₂) fun _ _ e => e) hs₁)
theorem x_list0 (hq : ∀ T h', KeepAll h h' → h.get? T = none → h'.IsList T #[] → Q (.ref T) ⟨h', gs, d, k, os⟩) : wpAny (model prog w) A (eval (.List [] pos) env) Q E ⟨h, gs, d, k, os⟩ :=
  wpAny_List (wpAny_items_nil ⟨by decide, hq _ _ (KeepAll.push _ _) (fresh_size _) ⟨_, Heap.get?_push_size _ rfl, rfl, _, rfl⟩⟩)
-- unpacking
theorem x_unpack2 {T : Addr} {v u : Value} {Ql : List Value → Shared → Prop} (hh : A.handled = none) (ht : h.IsTuple T #[v, u]) (hq : ∀ h', KeepAll h h' → Ql [v, u] ⟨h', gs, d, k, os⟩) :
    wpAny (model prog w) A (unpackItems (.ref T) 2 none) Ql E ⟨h, gs, d, k, os⟩ := by
  have e := wpAny_unpackItems_tuple (prog := prog) (w := w) (A := A) (E := E) (s := ⟨h, gs, d, k, os⟩) (t := T) (items := #[v, u]) (Q := Ql) hh ht (fun h' hb => hq h' (extBut_keep hb))
  exact e
theorem x_assign2 {f g : Value → Sem Unit} {v u : Value} {Qu : Unit → Shared → Prop} {s : Shared} (hh : wpAny (model prog w) A (f v) (fun _ s₁ => wpAny (model prog w) A (g u) (fun _ s₂ => Qu () s₂) E s₁) E s) :
    wpAny (model prog w) A (assignInOrder [f, g] [v, u]) Qu E s := by
  show wpAny (model prog w) A (do holding [u] (f v); assignInOrder [g] [u]) Qu E s
  refine wpAny_bind (wpAny_holding (wpAny_mono hh (fun _ s₁ h₁ => ?_) fun _ _ e => e))
  show wpAny (model prog w) A (do holding [] (g u); assignInOrder [] []) Qu E s₁
  exact wpAny_bind (wpAny_holding (wpAny_mono h₁ (fun _ s₂ h₂ => wpAny_pure h₂) fun _ _ e => e))
theorem x_assignT2 {e₁ e₂ : Expr} {kd : Nat} {T : Addr} {v u : Value} {Qu : Unit → Shared → Prop} (hh : A.handled = none) (ht : h.IsTuple T #[v, u])
    (hq : ∀ h', KeepAll h h' → wpAny (model prog w) A (assign e₁ env v) (fun _ s₁ => wpAny (model prog w) A (assign e₂ env u) (fun _ s₂ => Qu () s₂) E s₁) E ⟨h', gs, d, k, os⟩)
    (he : assignEach [e₁, e₂] env = [(false, assign e₁ env), (false, assign e₂ env)] := by rfl) :
    wpAny (model prog w) A (assign (.Tuple [e₁, e₂] kd pos) env (.ref T)) Qu E ⟨h, gs, d, k, os⟩ := by
  refine wpAny_assign_Tuple hh ht (by rw [he]; rfl) (by rw [he]; rfl) fun h' hb => ?_
  rw [he]
  exact x_assign2 (hq h' (extBut_keep hb))
/-- a slice of a text -/
theorem x_subSlice {value : Expr} {lower upper : Option Expr} {p : Pos} {s : Shared} (hh : wpAny (model prog w) A (eval value env) (fun o s₁ => wpAny (model prog w) A (evalPart lower env) (fun vl s₂ => wpAny (model prog w) A (evalPart upper env) (fun vu s₃ =>
      match s₃ with | ⟨h, gs, d, _, os⟩ => ∃ x t l u, o = .str x t ∧ vl = partValue l ∧ vu = partValue u ∧ x.length ≤ sizeLine ∧ ∀ t' k h', KeepAll h h' → Q (.str (Txt.slice x (l.map (·.1)) (u.map (·.1))) t') ⟨h', gs, d, k, os⟩) E s₂) E s₁) E s)
    (ht : ∀ o r, letTemporaryGo value o r = pure () := by intro _ _; rfl) :
    wpAny (model prog w) A (eval (.Subscript value (.Slice lower upper none p) pos) env) Q E s := by
  refine subSlice (wpAny_mono hh (fun o s₁ h₁ => wpAny_mono h₁ (fun vl s₂ h₂ => wpAny_mono h₂ (fun vu s₃ h₃ => ?_) fun _ _ e => e) fun _ _ e => e) fun _ _ e => e) ht
  obtain ⟨x, t, l, u, e1, e2, e3, hsz, hq⟩ := h₃
  exact ⟨x, t, l, u, e1, e2, e3, hsz, fun t' k' => hq t' k' _ (KeepAll.push _ _)⟩
theorem x_rfind {a : Sem Value} {s : Shared} (hh : wpAny (model prog w) A a (fun v s₁ => match s₁ with | ⟨h, gs, d, _, os⟩ => ∃ y u, v = .str y u ∧ ∀ t k', Q (.int (Txt.rfind x y) t) ⟨h, gs, d, k', os⟩) E s) : MethodOnS prog w A E "rfind" (.str x t) pos [(false, a)] Q s :=
  SB.rfind (wpAny_mono hh (fun v s₁ h₁ => by obtain ⟨y, u, e, hq⟩ := h₁; exact ⟨y, u, e, hq _ _⟩) fun _ _ e => e)
theorem x_rstrip {a : Sem Value} {s : Shared} (hsz : x.length ≤ sizeLine) (hh : wpAny (model prog w) A a (fun v s₁ => match s₁ with | ⟨h, gs, d, _, os⟩ => ∃ y u, v = .str y u ∧ ∀ t k', Q (.str (Txt.rstripChars x y) t) ⟨h, gs, d, k', os⟩) E s) : MethodOnS prog w A E "rstrip" (.str x t) pos [(false, a)] Q s :=
  SB.rstripChars (wpAny_mono hh (fun v s₁ h₁ => by obtain ⟨y, u, e, hq⟩ := h₁; exact ⟨y, u, e, fun _ _ => hq _ _⟩) fun _ _ e => e) hsz
end

end

section
local macro_rules | `(tactic| walk_at "nm") => `(tactic| first
  | (with_reducible exact up_self)
  | (with_reducible refine up_ne ?_ (by decide +kernel); walk_at "nm")
  | (with_reducible refine cMap_free ?_ (by kernel_rfl); walk_at "nm")
  | (with_reducible assumption)
  | (with_reducible exact rfl))
local macro_rules | `(tactic| walk_at "ld") => `(tactic| refine InF.ld (by assumption) (by walk_at "nm") ?_)
local macro_rules | `(tactic| walk_at "ldn") => `(tactic| refine InF.ldn (by assumption) (by walk_at "nm") ?_)
section
variable {prog : Program} {w : World} {A : Around} {E : Value → Shared → Prop} {s : Shared} {P : Params} {mg mb : Str → Option Value}

theorem Base.bi {h : Heap} (B : Base P mg mb h) {x : Str} {v : Value} (e : nsIn (Mine.hd.heap_39 P) mainGlobals x = some none) (hb : bootBuiltins x = some v) (hn : x ≠ "__name__" := by decide +kernel) : mg x = none ∧ mb x = some v :=
  ⟨mg_none_of B.K B.g e, (B.boot _ hn).trans hb⟩
theorem Base.gl {h : Heap} (B : Base P mg mb h) {x : Str} {v : Value} (e : nsIn (Mine.hd.heap_39 P) mainGlobals x = some (some v)) : mg x = some v := mg_of B.K B.g e
theorem boot_type' : bootBuiltins (Str.ofString "type") = some (.type "type") := by boot_fast
theorem boot_str' : bootBuiltins (Str.ofString "str") = some (.type "str") := by boot_fast
theorem boot_len' : bootBuiltins (Str.ofString "len") = some (.builtin "len") := by boot_fast
theorem boot_list' : bootBuiltins (Str.ofString "list") = some (.type "list") := by boot_fast
theorem boot_range' : bootBuiltins (Str.ofString "range") = some (.type "range") := by boot_fast
theorem boot_sum' : bootBuiltins (Str.ofString "sum") = some (.builtin "sum") := by boot_fast
theorem boot_divmod' : bootBuiltins (Str.ofString "divmod") = some (.builtin "divmod") := by boot_fast
theorem Base.type (B : Base P mg mb s.heap) : mg (Str.ofString "type") = none ∧ mb (Str.ofString "type") = some (.type "type") := B.bi (by kernel_rfl) boot_type'
theorem Base.str (B : Base P mg mb s.heap) : mg (Str.ofString "str") = none ∧ mb (Str.ofString "str") = some (.type "str") := B.bi (by kernel_rfl) boot_str'
theorem Base.len (B : Base P mg mb s.heap) : mg (Str.ofString "len") = none ∧ mb (Str.ofString "len") = some (.builtin "len") := B.bi (by kernel_rfl) boot_len'
theorem Base.list (B : Base P mg mb s.heap) : mg (Str.ofString "list") = none ∧ mb (Str.ofString "list") = some (.type "list") := B.bi (by kernel_rfl) boot_list'
theorem Base.range (B : Base P mg mb s.heap) : mg (Str.ofString "range") = none ∧ mb (Str.ofString "range") = some (.type "range") := B.bi (by kernel_rfl) boot_range'
theorem Base.sum (B : Base P mg mb s.heap) : mg (Str.ofString "sum") = none ∧ mb (Str.ofString "sum") = some (.builtin "sum") := B.bi (by kernel_rfl) boot_sum'
theorem Base.divmod (B : Base P mg mb s.heap) : mg (Str.ofString "divmod") = none ∧ mb (Str.ofString "divmod") = some (.builtin "divmod") := B.bi (by kernel_rfl) boot_divmod'

theorem kind_spec {x y : Str} {t u : Tok} {Q : Value → Shared → Prop} (B : Base P mg mb s.heap) (hd : A.depth < recursionLimit)
    (h : ∀ s' t', Mv s s' → Q (.str (Str.ofString "") t') s') : wpAny (model prog w) A (call (.ref 78) [.str x t, .str y u]) Q E s := by
  refine call_own (binds := [(Str.ofString "name", .str x t), (Str.ofString "x", .str y u)]) B hd B.fn78 B.cd78 (by kernel_rfl) (by kernel_rfl) (by intro _; kernel_rfl) fun L s₁ hL F => ?_
  simp only [argM] at F
  refine wpAny_execs_cons (wpAny_Assign_Name (call1 (F.built B B.type.1 B.type.2 ⟨.inr ⟨_, rfl⟩, ?_⟩)))
  walk_at "ld"
  refine call_type_of (typeIs_str _ _ _) (by decide) ?_
  refine F.st fun h₂ k₂ F K _ => ?_
  refine wpAny_execs_cons (wpAny_If (wpAny_isTrue_Compare1 ?_))
  walk_at "ld"
  refine InF.built (by assumption) B B.str.1 B.str.2 ?_
  refine wpAny_is_self (by decide) (wpAny_truthy_bool ?_)
  simp only [if_true]
  refine wpAny_execs_cons (wpAny_Return_some (x_str fun t k => ?_))
  exact h _ _ (F.mvo (s := ⟨_, _, _, _, _⟩))
end

end

section
local macro_rules | `(tactic| walk_at "nm") => `(tactic| first
  | (with_reducible exact up_self)
  | (with_reducible refine up_ne ?_ (by decide +kernel); walk_at "nm")
  | (with_reducible refine cMap_free ?_ (by kernel_rfl); walk_at "nm")
  | (with_reducible assumption)
  | (with_reducible exact rfl))
local macro_rules | `(tactic| walk_at "ld") => `(tactic| refine InF.ld (by assumption) (by walk_at "nm") ?_)
local macro_rules | `(tactic| walk_at "ldn") => `(tactic| refine InF.ldn (by assumption) (by walk_at "nm") ?_)
section
variable {prog : Program} {w : World} {A : Around} {E : Value → Shared → Prop} {s : Shared} {P : Params} {mg mb : Str → Option Value}

theorem sizeLine_1000 {n : Nat} (h : n ≤ 1000) : n ≤ sizeLine := Nat.le_trans h (by decide)

theorem fspath_spec {x y : Str} {t u : Tok} {Q : Value → Shared → Prop} (B : Base P mg mb s.heap) (hd : A.depth + 1 < recursionLimit)
    (h : ∀ s', Mv s s' → Q (.str y u) s') : wpAny (model prog w) A (call (.ref 85) [.str x t, .str y u]) Q E s := by
  refine call_own (binds := [(Str.ofString "name", .str x t), (Str.ofString "x", .str y u)]) B (by omega) B.fn85 B.cd85 (by kernel_rfl) (by kernel_rfl) (by intro _; kernel_rfl) fun L s₁ hL F => ?_
  simp only [argM] at F
  refine wpAny_execs_cons (wpAny_Assign_Name (callF2 (F.glob B (B.gl (v := .ref 78) (by kernel_rfl)) ⟨_, rfl, ?_⟩)))
  walk_at "ld"
  walk_at "ld"
  have B₁ := B.keeps F.keep
  refine ⟨⟨_, _, B₁.fn78, rfl⟩, kind_spec B₁ (by show A.depth + 1 < _; omega) fun s₂ t₂ k₂ => ?_⟩
  have F := InF.aft k₂ F
  refine F.st fun h₃ k₃ F K _ => ?_
  refine wpAny_execs_cons (wpAny_If (wpAny_isTrue_value ?_))
  walk_at "ld"
  refine x_truthys (by decide +kernel) fun k => ?_
  simp only [show ((((Str.ofString "").length : Nat) : Int) != 0) = false from by decide +kernel, Bool.false_eq_true, if_false]
  refine wpAny_execs_nil (wpAny_execs_cons (wpAny_Return_some ?_))
  walk_at "ld"
  exact h _ (F.mvo (s := ⟨_, _, _, _, _⟩))

/-- what `split` gives -/
def SL : Str := Str.ofString "/"
def splitI (p : Str) : Int := Txt.rfind p SL + 1
def splitH (p : Str) : Str := Txt.slice p none (some (splitI p))
def splitT (p : Str) : Str := Txt.slice p (some (splitI p)) none
def splitHead (p : Str) : Str :=
  if (((splitH p).length : Int) != 0) = true then
    (if ((splitH p).cps.toList != (Txt.mul SL (splitH p).length).cps.toList) = true then Txt.rstripChars (splitH p) SL else splitH p)
  else splitH p

theorem SL_length : SL.length = 1 := by decide +kernel
theorem slash_mulOk {n : Nat} (h : n ≤ 1000) : MulOk SL n := by
  refine ⟨by simp; omega, fun h1 _ => ?_, fun h1 _ => ?_⟩
  · rw [SL_length]
    have : (1 : Int) ≤ (2 ^ 63 - 1) / (n : Int) := by
      apply Int.le_ediv_of_mul_le (by omega); omega
    omega
  · rw [SL_length]; simp only [Builtin.Str.tooLong, Int.toNat_natCast, Nat.one_mul, decide_eq_false_iff_not]
    have : sizeLine = 2 ^ 24 := rfl
    omega
theorem splitH_le (p : Str) : (splitH p).length ≤ p.length := Txt.slice_le _ _ _

theorem split_spec {p : Str} {t : Tok} {Q : Value → Shared → Prop} (B : Base P mg mb s.heap) (hh : A.handled = none) (hd : A.depth + 2 < recursionLimit) (hp : p.length ≤ 1000)
    (h : ∀ s' T t₁ t₂, Mv s s' → s'.heap.IsTuple T #[.str (splitHead p) t₁, .str (splitT p) t₂] → Q (.ref T) s') : wpAny (model prog w) A (call (.ref 92) [.str p t]) Q E s := by
  refine call_own (binds := [(Str.ofString "p", .str p t)]) B (by omega) B.fn92 B.cd92 (by kernel_rfl) (by kernel_rfl) (by intro _; kernel_rfl) fun L s₁ hL F => ?_
  simp only [argM] at F
  refine wpAny_execs_cons (wpAny_Assign_Name (callF2 (F.glob B (B.gl (v := .ref 85) (by kernel_rfl)) ⟨_, rfl, x_str fun t k => ?_⟩)))
  walk_at "ld"
  have B₁ := B.keeps F.keep
  refine ⟨⟨_, _, B₁.fn85, rfl⟩, fspath_spec B₁ (by show A.depth + 1 + 1 < _; omega) fun s₂ k₂ => ?_⟩
  have F := InF.aft k₂ F
  refine F.st fun h₃ k₃ F _ _ => ?_
  -- sep = '/'
  refine wpAny_execs_cons (wpAny_Assign_Name (x_str fun t k => ?_))
  refine InF.st (by assumption) fun h₄ k₄ F _ _ => ?_
  -- i = p.rfind(sep) + 1
  refine wpAny_execs_cons (wpAny_Assign_Name (wpAny_BinOp (Call_method1 (by rfl) (by rfl) (by decide) ?_)))
  walk_at "ld"
  refine x_rfind ?_
  walk_at "ld"
  refine ⟨_, _, rfl, fun t k => x_int fun t k => x_add fun ti k => ?_⟩
  refine InF.st (by assumption) fun h₅ k₅ F _ _ => ?_
  -- head, tail = (p[:i], p[i:])
  refine wpAny_execs_cons (Assign_Tuple_swapped (names := [Str.ofString "head", Str.ofString "tail"]) (x_tuple2 (x_subSlice ?_)))
  walk_at "ld"
  refine evalPart_none_step (evalPart_some_step ?_)
  walk_at "ld"
  refine ⟨_, _, none, some (_, _), rfl, rfl, rfl, sizeLine_1000 hp, fun t₁ k h₆ K₆ => ?_⟩
  have F := F.grow K₆
  refine x_subSlice ?_
  walk_at "ld"
  refine evalPart_some_step ?_
  walk_at "ld"
  refine evalPart_none_step ?_
  refine ⟨_, _, some (_, _), none, rfl, rfl, rfl, sizeLine_1000 hp, fun t₂ k h₇ K₇ => ?_⟩
  intro T h₈ K₈ _ hT
  have F := (F.grow K₇).grow K₈
  refine x_unpack2 hh hT fun h₉ K₉ => ?_
  have F := F.grow K₉
  refine x_assign2 ?_
  refine wpAny_bindName (InF.st (by assumption) fun h₁₀ k F _ _ => ?_)
  refine wpAny_bindName (InF.st (by assumption) fun h₁₁ k F _ _ => ?_)
  have hH : (splitH p).length ≤ 1000 := Nat.le_trans (splitH_le p) hp
  -- if head and head != sep * len(head): head = head.rstrip(sep)
  have fin : ∀ (m : Str → Option Value) (v tl : Str) (t' u' : Tok) (hp : Heap) (gs : Array GenState) (d : Drawn) (k : Nat) (os : OsState), InF (.of s s.heap fun _ => False) (callEnvC (fdAt 92) L 92) m hp gs d os → m (Str.ofString "head") = some (.str v t') → m (Str.ofString "tail") = some (.str tl u') → v = splitHead p → tl = splitT p →
      wpAny (model prog w) (A.deeper (callEnvC (fdAt 92) L 92)) (execs ((bodyAt 92).drop 5) (callEnvC (fdAt 92) L 92)) (fun f s' => Q (match f with | .ret v => v | _ => .none) s') (fun _ _ => False) ⟨hp, gs, d, k, os⟩ := by
    intro m v tl t' u' hp gs d k os F hm₁ hm₂ hv htl
    subst hv htl
    refine wpAny_execs_cons (wpAny_Return_some (x_tuple2 ?_))
    walk_at "ld"
    walk_at "ld"
    intro T h' K' _ hT
    have F := F.grow K'
    exact h _ _ _ _ (F.mvo (s := ⟨_, _, _, _, _⟩)) hT
  refine wpAny_execs_cons (wpAny_If (wpAny_isTrue_BoolOp (wpAny_allTrue_And_cons (wpAny_isTrue_value ?_))))
  walk_at "ld"
  refine x_truthys hH fun k => ?_
  split
  · rename_i h1
    refine wpAny_allTrue_And_cons (wpAny_isTrue_Compare1 ?_)
    walk_at "ld"
    refine wpAny_BinOp ?_
    walk_at "ld"
    refine call1 (InF.built (by assumption) B B.len.1 B.len.2 ⟨.inl ⟨_, rfl⟩, ?_⟩)
    walk_at "ld"
    refine x_lens hH fun t k => x_muls (slash_mulOk hH) fun t k => PySem.P.ne_str (wpAny_truthy_bool ?_)
    split
    · rename_i h2
      refine wpAny_allTrue_And_nil ?_
      simp only [if_true]
      refine wpAny_execs_cons (wpAny_Assign_Name (Call_method1 (by rfl) (by rfl) (by decide) ?_))
      walk_at "ld"
      refine x_rstrip (sizeLine_1000 hH) ?_
      walk_at "ld"
      refine ⟨_, _, rfl, fun t k => ?_⟩
      refine InF.st (by assumption) fun h₁₂ k F _ _ => ?_
      refine wpAny_execs_nil ?_
      refine fin _ _ _ _ _ _ _ _ _ _ F (by walk_at "nm") (by walk_at "nm") ?_ (by rfl)
      exact (show splitHead p = _ from (if_pos h1).trans (if_pos h2)).symm
    · rename_i h2
      simp only [Bool.false_eq_true, if_false]
      refine wpAny_execs_nil ?_
      refine fin _ _ _ _ _ _ _ _ _ _ F (by walk_at "nm") (by walk_at "nm") ?_ (by rfl)
      exact (show splitHead p = _ from (if_pos h1).trans (if_neg h2)).symm
  · rename_i h1
    simp only [Bool.false_eq_true, if_false]
    refine wpAny_execs_nil ?_
    refine fin _ _ _ _ _ _ _ _ _ _ F (by walk_at "nm") (by walk_at "nm") ?_ (by rfl)
    exact (show splitHead p = _ from if_neg h1).symm
end

end

section
local macro_rules | `(tactic| walk_at "nm") => `(tactic| first
  | (with_reducible exact up_self)
  | (with_reducible refine up_ne ?_ (by decide +kernel); walk_at "nm")
  | (with_reducible refine cMap_free ?_ (by kernel_rfl); walk_at "nm")
  | (with_reducible assumption)
  | (with_reducible exact rfl))
local macro_rules | `(tactic| walk_at "ld") => `(tactic| refine InF.ld (by assumption) (by walk_at "nm") ?_)
local macro_rules | `(tactic| walk_at "ldn") => `(tactic| refine InF.ldn (by assumption) (by walk_at "nm") ?_)
/-- what a segment of the generator does: all is kept but its own frame -/
structure Sn (C : Addr) (s s' : Shared) : Prop where
  heap : ∀ b o, b ≠ C → s.heap.get? b = some o → s'.heap.get? b = some o
  gens : ∀ (g : Nat) (x : GenState), s.gens[g]? = some x → s'.gens[g]? = some x
  bare : AllBare s.gens → AllBare s'.gens
  os : s'.os = s.os
  drawn : s'.drawn = s.drawn
theorem Sn.refl (C : Addr) (s : Shared) : Sn C s s := ⟨fun _ _ _ e => e, fun _ _ e => e, id, rfl, rfl⟩
theorem Sn.trans {C : Addr} {a b c : Shared} (x : Sn C a b) (y : Sn C b c) : Sn C a c :=
  ⟨fun b o hb e => y.heap b o hb (x.heap b o hb e), fun g v e => y.gens g v (x.gens g v e), fun e => y.bare (x.bare e), y.os.trans x.os, y.drawn.trans x.drawn⟩
theorem Mv.sn {C : Addr} {a b : Shared} (x : Mv a b) : Sn C a b := ⟨fun b o _ e => x.keep b o e, x.gens, x.bare, x.os, x.drawn⟩

section
variable {prog : Program} {w : World} {A : Around} {E : Value → Shared → Prop} {s : Shared}
/-- one turn of a generator function -/
theorem next_fn {a : Addr} {g n : Nat} {gs : GenState} {Pq : Nat → Shared → Shared → Prop} {Y : Protocol} {Q : Option Value → Shared → Prop} (hh : A.handled = none)
    (hl : s.heap.NoLimit) (hroom : A.depth < recursionLimit) (hg : s.heap.IsGen a g) (hgs : s.gens[g]? = some gs)
    (hgo : gs.Goes (model prog w) A.in1 (fun n s₀ r s₁ => r = .ok (.ret .none) ∧ Pq n s₀ s₁) Y n (.send .none) (s.setGen g .running))
    (hY : ∀ v s₁ gs', gs'.bare = true → Y (n - 1) (s.setGen g .running) v s₁ (fun r' s'' => match n with
        | 0 => False
        | m + 1 => gs'.Goes (model prog w) A.in1 (fun n s₀ r s₁ => r = .ok (.ret .none) ∧ Pq n s₀ s₁) Y m r' s'') → Q (some v) (s₁.setGen g gs'))
    (hP : ∀ s₁, Pq n (s.setGen g .running) s₁ → ∀ h', KeepAll s₁.heap h' → Q none { s₁.setGen g .finished with heap := h' }) :
    wpAny (model prog w) A (pyNext (.ref a)) Q E s := by
  unfold pyNext
  refine wpAny_bind (wpAny_attempt (wpAny_callSpecial?_slot (name := Str.ofString "__next__") hg.typeIs slot_gen_next (wpAny_call_entry slot_gen_next hg.typeIs entry_gen_next ?_ (args_gen_next _))))
  show wpAny _ A.in1 (Builtin.Generator.genWake (.ref a) (.send .none)) _ _ s
  unfold Builtin.Generator.genWake
  refine wpAny_bind (wpAny_holding (wpAny_genNumber hg (wpAny_bind (wpAny_genState hgs ?_))))
  have stop : ∀ s₁, Pq n (s.setGen g .running) s₁ → ∀ {α β : Type} {kk : α → Sem β} {Q' : β → Shared → Prop} {E' : Value → Shared → Prop}, (∀ e h' , KeepAll s₁.heap h' → (⟨h', s₁.gens.setIfInBounds g .finished, s₁.drawn, s₁.toks, s₁.os⟩ : Shared).TypeIs e "StopIteration" → E' e ⟨h', s₁.gens.setIfInBounds g .finished, s₁.drawn, s₁.toks, s₁.os⟩) →
      wpAny (model prog w) A.in1 (newExc (.type "StopIteration") [] >>= fun e => raiseNew e >>= kk) Q' E' (s₁.setGen g .finished) := by
    intro s₁ hp α β kk Q' E' hE
    refine wpAny_bind ?_
    simp only [newExc, newTuple]
    refine wpAny_bind (wpAny_newObj_type ?_ (by size_fits))
    refine wpAny_bind (m := firstArgMember _ _) (wpAny_of_eq (a := Value.none) (by first | rfl | (simp only [firstArgMember]; rfl)) ?_)
    refine wpAny_newObj_type ?_ (by size_fits)
    simp only [raiseNew]
    refine wpAny_bind (wpAny_bind (wpAny_handled ?_))
    rw [show A.in1.handled = none from hh]
    refine wpAny_throw ?_
    exact hE _ _ (fun b o e => Heap.get?_push_of_some _ (Heap.get?_push_of_some _ e)) ⟨_, Heap.get?_push_size _ rfl, rfl⟩
  cases gs with
  | running => exact hgo.elim
  | finished => exact hgo.elim
  | _ =>
    refine wpAny_bind (wpAny_roomToWake hl hroom ?_)
    show wpAny _ A.in1 (.resume g (.send .none) [] _) _ _ s
    refine wpAny_resumeQ hgs hgo (fun x s₁ hx => ?_) (fun v s₁ gs' hb hv => ?_)
    · obtain ⟨rfl, hp⟩ := hx
      show wpAny _ A.in1 (newExc (.type "StopIteration") [] >>= fun e => raiseNew e >>= _) _ _ _
      refine stop s₁ hp fun e h' hk hT => ?_
      refine wpAny_bind (wpAny_isInstance (T := "StopIteration") (b := true) hT isSubtype_stop ?_)
      exact wpAny_pure (hP s₁ hp h' hk)
    · exact wpAny_pure ⟨v, rfl, wpAny_pure (hY v s₁ gs' hb hv)⟩
end

end

section
local macro_rules | `(tactic| walk_at "nm") => `(tactic| first
  | (with_reducible exact up_self)
  | (with_reducible refine up_ne ?_ (by decide +kernel); walk_at "nm")
  | (with_reducible refine cMap_free ?_ (by kernel_rfl); walk_at "nm")
  | (with_reducible assumption)
  | (with_reducible exact rfl))
local macro_rules | `(tactic| walk_at "ld") => `(tactic| refine InF.ld (by assumption) (by walk_at "nm") ?_)
local macro_rules | `(tactic| walk_at "ldn") => `(tactic| refine InF.ldn (by assumption) (by walk_at "nm") ?_)
/-- the chain of folders that `_ancestry` yields -/
structure AncOk (c : Nat → Str) (n : Nat) (p : Str) : Prop where
  zero : c 0 = Txt.rstripChars p SL
  step : ∀ i, i < n → (((Txt.rstripChars (c i) SL).length : Int) != 0) = true ∧ c (i + 1) = splitHead (c i)
  stop : (((Txt.rstripChars (c n) SL).length : Int) != 0) = false
  len : ∀ i, i ≤ n → (c i).length ≤ 1000 ∧ (Txt.rstripChars (c i) SL).length ≤ 1000
  plen : p.length ≤ 1000

noncomputable abbrev ancEnv (C : Addr) : Env := callEnvC (fdAt 99) C 99
noncomputable def whTest : Expr := match bodyAt 99 with
  | _ :: Stmt.While t _ _ _ :: _ => t
  | _ => .Constant .none 0 default
noncomputable def whBody : List Stmt := match bodyAt 99 with
  | _ :: Stmt.While _ b _ _ :: _ => b
  | _ => []
noncomputable abbrev whCode (C : Addr) : Code := .whileLoop whTest whBody [] (ancEnv C)

def ancY (C : Addr) (c : Nat → Str) (N : Nat) : Protocol := fun m s₀ v s kap =>
  (∃ t, v = .str (c (N - 1 - m)) t) ∧ Sn C s₀ s ∧ ∀ s'' : Shared, (∀ b o, b ≤ C → s.heap.get? b = some o → s''.heap.get? b = some o) → kap (.send .none) s''
def ancR (C : Addr) : GenEnd := fun n s₀ r s₁ => r = .ok (.ret .none) ∧ (n = 0 ∧ Sn C s₀ s₁)

section
variable {prog : Program} {w : World} {A : Around} {P : Params} {mg mb : Str → Option Value} {href : Heap} {C : Addr} {c : Nat → Str} {N : Nat} {p : Str}

/-- the generator's own frame, at a segment's state -/
theorem ancF {ml : Str → Option Value} {h : Heap} {gs : Array GenState} {d : Drawn} {os : OsState} (hC : href.objs.size = C) (hn : h.Ns C ml) (hk : KeepAll href h) : InF ⟨href, gs, d, os, href, fun _ => True⟩ (ancEnv C) ml h gs d os := by
  have hc : (ancEnv C).cells = [] := by kernel_rfl
  exact ⟨⟨ml, hn, fun _ _ => rfl⟩, fun n c e => (by rw [hc] at e; cases e), by rw [hc]; exact List.Pairwise.nil, ⟨by show href.get? C = none; rw [← hC]; exact fresh_size _, fun x hx => by rw [hc] at hx; cases hx⟩, hk, fun _ _ e => e, id, rfl, rfl, fun _ _ _ h => (h trivial).elim⟩

theorem anc_loop (B : Base P mg mb href) (hC : href.objs.size = C) (ok : AncOk c N p) {fs : List Frame} (hfs : splitAtGen fs = none) (hfg : fs.any Frame.guarded = false)
    (hAh : (A.over (whCode C) fs).handled = none) (hAd : (A.over (whCode C) fs).depth + 5 < recursionLimit)
    (hend : ∀ s₀ s, Sn C s₀ s → Seg (model prog w) A (ancR C) (ancY C c N) 0 s₀ (whCode C) (leafOf (.ok .next)) fs s) :
    ∀ (k i : Nat) (s₀ s : Shared) (t : Tok) (ml : Str → Option Value), N - i = k → i ≤ N → s.heap.Ns C ml → ml (Str.ofString "path") = some (.str (c i) t) → Sn C s₀ s → KeepAll href s.heap →
      Seg (model prog w) A (ancR C) (ancY C c N) (N - i) s₀ (whCode C) ((model prog w).den (whCode C)) fs s := by
  intro k
  induction k with
  | zero =>
    intro i s₀ s t ml hk hi hn hp hs hkp
    have hiN : i = N := by omega
    subst hiN
    obtain ⟨h, gs, d, k, os⟩ := s
    have F : InF ⟨href, gs, d, os, href, fun _ => True⟩ (ancEnv C) ml h gs d os := ancF hC hn hkp
    refine seg_whileLoop (wpAny_isTrue_value (Call_method1 (by rfl) (by rfl) (by decide) ?_))
    walk_at "ld"
    refine x_rstrip (sizeLine_1000 (ok.len i (Nat.le_refl _)).1) ?_
    refine F.glob B (B.gl (v := .str SL 265) (by kernel_rfl)) ?_
    refine ⟨_, _, rfl, fun t k => x_truthys (ok.len i (Nat.le_refl _)).2 fun k => ?_⟩
    rw [ok.stop]
    simp only [Bool.false_eq_true, if_false, Nat.sub_self]
    exact hend _ _ ⟨fun b o hb e => hs.heap b o hb e, hs.gens, hs.bare, hs.os, hs.drawn⟩
  | succ k ih =>
    intro i s₀ s t ml hk hi hn hp hs hkp
    have hlt : i < N := by omega
    obtain ⟨h, gs, d, k₀, os⟩ := s
    have F : InF ⟨href, gs, d, os, href, fun _ => True⟩ (ancEnv C) ml h gs d os := ancF hC hn hkp
    refine seg_whileLoop (wpAny_isTrue_value (Call_method1 (by rfl) (by rfl) (by decide) ?_))
    walk_at "ld"
    refine x_rstrip (sizeLine_1000 (ok.len i hi).1) ?_
    refine F.glob B (B.gl (v := .str SL 265) (by kernel_rfl)) ?_
    refine ⟨_, _, rfl, fun t₁ k₁ => x_truthys (ok.len i hi).2 fun k₂ => ?_⟩
    rw [(ok.step i hlt).1]
    simp only [if_true]
    obtain ⟨m, hm⟩ : ∃ m, N - i = m + 1 := ⟨N - i - 1, by omega⟩
    rw [hm]
    refine seg_execs_cons (seg_Expr_Yield hfs rfl hfg ?_)
    walk_at "ld"
    intro kap hkap
    refine ⟨⟨t, by rw [show N - 1 - m = i by omega]⟩, ⟨fun b o hb e => hs.heap b o hb e, hs.gens, hs.bare, hs.os, hs.drawn⟩, fun s'' hal => hkap .none s'' ?_⟩
    show Seg _ A _ _ m s'' _ _ fs s''
    obtain ⟨h', gs', d', k', os'⟩ := s''
    have hkp' : KeepAll href h' := fun b o e => hal b o (Nat.le_of_lt (hC ▸ Heap.lt_size e)) (hkp b o e)
    have hn' : h'.Ns C ml := hn.at' fun o e => hal C o (Nat.le_refl _) e
    have F : InF ⟨href, gs', d', os', href, fun _ => True⟩ (ancEnv C) ml h' gs' d' os' := ancF hC hn' hkp'
    refine seg_execs_cons (seg_wrap (Assign_Tuple (callF1 (F.glob B (B.gl (v := .ref 92) (by kernel_rfl)) ⟨_, rfl, ?_⟩))))
    walk_at "ld"
    have B' := B.keeps hkp'
    refine ⟨⟨_, _, B'.fn92, rfl⟩, split_spec B' hAh (show (A.over (whCode C) fs).depth + 2 < recursionLimit by omega) (ok.len i hi).1 fun s₂ T t₁ t₂ mv hT => ?_⟩
    obtain ⟨h₂, gs₂, d₂, k₂, os₂⟩ := s₂
    have F₂ := InF.aft (s' := ⟨h₂, gs₂, d₂, k₂, os₂⟩) mv F
    refine x_assignT2 hAh hT fun h₃ K₃ => ?_
    have F₃ := F₂.grow K₃
    refine assign_Name (InF.st F₃ fun h₄ k₄ F₄ S₄ O₄ => ?_)
    refine assign_Name (InF.st F₄ fun h₅ k₅ F₅ S₅ O₅ => ?_)
    refine seg_execs_nil ?_
    refine seg_again rfl ?_
    obtain ⟨ml₅, hn₅, hm₅⟩ := F₅.ns
    have hsl : slotOf (ancEnv C) (Str.ofString "path") = some C := by kernel_rfl
    have hsl' : slotOf (ancEnv C) (Str.ofString "tail") = some C := by kernel_rfl
    have hsn : Sn C ⟨h', gs', d', k', os'⟩ ⟨h₅, gs₂, d₂, k₅, os₂⟩ := ⟨fun b o hb e => O₅ b o (by rw [hsl']; exact fun x => hb (Option.some.inj x).symm) (O₄ b o (by rw [hsl]; exact fun x => hb (Option.some.inj x).symm) (K₃ b o (mv.keep b o e))), mv.gens, mv.bare, mv.os, mv.drawn⟩
    have := ih (i + 1) ⟨h', gs', d', k', os'⟩ ⟨h₅, gs₂, d₂, k₅, os₂⟩ t₁ ml₅ (by omega) (by omega) hn₅ ((hm₅ _ (by kernel_rfl)).trans (by rw [(ok.step i hlt).2]; walk_at "nm")) hsn F₅.keep
    rw [show N - (i + 1) = m by omega] at this
    exact this
end

end

section
local macro_rules | `(tactic| walk_at "nm") => `(tactic| first
  | (with_reducible exact up_self)
  | (with_reducible refine up_ne ?_ (by decide +kernel); walk_at "nm")
  | (with_reducible refine cMap_free ?_ (by kernel_rfl); walk_at "nm")
  | (with_reducible assumption)
  | (with_reducible exact rfl))
local macro_rules | `(tactic| walk_at "ld") => `(tactic| refine InF.ld (by assumption) (by walk_at "nm") ?_)
local macro_rules | `(tactic| walk_at "ldn") => `(tactic| refine InF.ldn (by assumption) (by walk_at "nm") ?_)
section
variable {prog : Program} {w : World} {A : Around} {P : Params} {mg mb : Str → Option Value} {href : Heap} {C : Addr} {c : Nat → Str} {N : Nat} {p : Str}

theorem anc_start (B : Base P mg mb href) (hC : href.objs.size = C) (ok : AncOk c N p) (hh : A.handled = none) (hd : A.depth + 20 < recursionLimit)
    (s₀ s : Shared) (t : Tok) (ml : Str → Option Value) (hn : s.heap.Ns C ml) (hp : ml (Str.ofString "path") = some (.str p t)) (hs : Sn C s₀ s) (hkp : KeepAll href s.heap) :
    Seg (model prog w) A (ancR C) (ancY C c N) N s₀ (.func (bodyAt 99) (ancEnv C)) ((model prog w).den (.func (bodyAt 99) (ancEnv C))) [] s := by
  refine seg_func ?_
  obtain ⟨h, gs, d, k₀, os⟩ := s
  have F : InF ⟨href, gs, d, os, href, fun _ => True⟩ (ancEnv C) ml h gs d os := ancF hC hn hkp
  refine seg_execs_cons (seg_wrap (wpAny_Assign_Name (Call_method1 (by rfl) (by rfl) (by decide) ?_)))
  walk_at "ld"
  refine x_rstrip (sizeLine_1000 ok.plen) ?_
  refine F.glob B (B.gl (v := .str SL 265) (by kernel_rfl)) ?_
  refine ⟨_, _, rfl, fun t₁ k₁ => ?_⟩
  refine InF.st F fun h₁ k₂ F₁ S₁ O₁ => ?_
  refine seg_execs_cons (seg_While fun ps => ?_)
  obtain ⟨ml₁, hn₁, hm₁⟩ := F₁.ns
  have hsl : slotOf (ancEnv C) (Str.ofString "path") = some C := by kernel_rfl
  have hsn : Sn C s₀ ⟨h₁, gs, d, k₂, os⟩ := ⟨fun b o hb e => O₁ b o (by rw [hsl]; exact fun x => hb (Option.some.inj x).symm) (hs.heap b o hb e), hs.gens, hs.bare, hs.os, hs.drawn⟩
  refine anc_loop (prog := prog) (w := w) (A := A) B hC ok (hfs := ?_) (hfg := ?_) (hAh := ?_) (hAd := ?_) (hend := ?_) N 0 s₀ ⟨h₁, gs, d, k₂, os⟩ t₁ ml₁ rfl (Nat.zero_le _) hn₁ ((hm₁ _ (by kernel_rfl)).trans (by rw [ok.zero]; walk_at "nm")) hsn F₁.keep
  · rfl
  · rfl
  · exact hh
  · show A.depth + 1 + 0 + 5 < recursionLimit
    omega
  · intro s₀ s hs
    refine seg_leaf (.ok .next) ?_
    exact seg_end (.ok (.ret .none)) ⟨rfl, rfl, hs⟩

def ancG (g : Nat) (a b : Array GenState) : Prop := (∀ (k : Nat) (x : GenState), k ≠ g → a[k]? = some x → b[k]? = some x) ∧ (AllBare a → AllBare b)
/-- the generator, j folders drawn -/
def ancSt (prog : Program) (w : World) (A : Around) (href : Heap) (I C g : Nat) (c : Nat → Str) (N j : Nat) (s : Shared) : Prop :=
  KeepAll href s.heap ∧ (s.heap.IsGen I g) ∧ ∃ gs, s.gens[g]? = some gs ∧ ∀ s'' : Shared, (∀ b o, b ≤ C → s.heap.get? b = some o → s''.heap.get? b = some o) →
    gs.Goes (model prog w) A.in1 (ancR C) (ancY C c N) (N - j) (.send .none) s''

theorem setGen_other {s : Shared} {g k : Nat} {x : GenState} (h : k ≠ g) : (s.setGen g x).gens[k]? = s.gens[k]? := by simp [Shared.setGen, Ne.symm h]
theorem setGen_bare {s : Shared} {g : Nat} {x : GenState} (hx : x.bare = true) (h : AllBare s.gens) : AllBare (s.setGen g x).gens := by
  intro y hy
  obtain ⟨i, hi⟩ := Array.mem_iff_getElem?.mp hy
  by_cases e : i = g
  · subst e
    by_cases hlt : i < s.gens.size
    · have : (s.setGen i x).gens[i]? = some x := by simp [Shared.setGen, hlt]
      rw [this] at hi; cases hi; exact hx
    · have : (s.setGen i x).gens[i]? = none := by simp [Shared.setGen, hlt]
      rw [this] at hi; cases hi
  · rw [setGen_other e] at hi
    exact h y (Array.mem_of_getElem? hi)
theorem anc_moved {g : Nat} {s s₁ : Shared} {x : GenState} {h' : Heap} (hsn : Sn C (s.setGen g .running) s₁) (hx : x.bare = true) (hk : KeepAll s₁.heap h') (ht : s.toks ≤ s₁.toks) :
    Moved [C] (ancG g) s { s₁.setGen g x with heap := h' } := by
  refine ⟨fun b o hb e => hk b o (hsn.heap b o (by simpa using hb) e), ⟨fun k v hkg e => ?_, fun e => setGen_bare hx (hsn.bare (setGen_bare rfl e))⟩, hsn.drawn, hsn.os, ht⟩
  show (s₁.setGen g x).gens[k]? = some v
  rw [setGen_other hkg]
  exact hsn.gens k v (by rw [setGen_other hkg]; exact e)

theorem anc_walks (B : Base P mg mb href) (hC : href.objs.size = C) {I g : Nat} (hIC : C < I) (hh : A.handled = none) (hd : A.depth + 30 < recursionLimit) :
    WalksS prog w A I (I :: C :: List.range C) [C] (ancG g) N (fun j v => ∃ t, v = .str (c j) t) (fun j s => ancSt prog w A href I C g c N j s) where
  sub := fun b hb => by simp at hb; simp [hb]
  grefl := fun a => ⟨fun _ _ _ e => e, id⟩
  gtrans := fun a b c x y => ⟨fun k v hk e => y.1 k v hk (x.1 k v hk e), fun e => y.2 (x.2 e)⟩
  frame := fun j s h' tk st htk hk => by
    obtain ⟨hkp, hg, gs, hgs, hgo⟩ := st
    have hb : ∀ b, b ≤ C → b ∈ I :: C :: List.range C := fun b hb => by
      rcases Nat.lt_or_eq_of_le hb with h | h
      · exact List.mem_cons_of_mem _ (List.mem_cons_of_mem _ (List.mem_range.mpr h))
      · subst h; simp
    refine ⟨fun b o e => hk b (hb b (Nat.le_of_lt (hC ▸ Heap.lt_size e))) o (hkp b o e), ?_, gs, hgs, fun s'' hal => hgo s'' fun b o hbC e => hal b o hbC (hk b (hb b hbC) o e)⟩
    obtain ⟨o, nm, qn, ho, r⟩ := hg
    exact ⟨o, nm, qn, hk I (List.mem_cons_self ..) o ho, r⟩
  item := fun j s Q E hj st hQ => by
    obtain ⟨hkp, hg, gs, hgs, hgo⟩ := st
    obtain ⟨m, hm⟩ : ∃ m, N - j = m + 1 := ⟨N - j - 1, by omega⟩
    rw [hm] at hgo
    refine wpAny_with_toks (Nat.le_refl s.toks) ?_
    refine next_fn (Pq := fun n s₀ s₁ => n = 0 ∧ Sn C s₀ s₁) hh (B.nolimit.keeps hkp) (by omega) hg hgs (hgo _ fun _ _ _ e => e) (fun v s₁ gs' hb hv => ?_) (fun s₁ hp h' hk => ?_)
    · obtain ⟨⟨t, hv⟩, hsn, hkap⟩ := hv
      intro htk
      refine hQ v _ ⟨t, by rw [hv, show N - 1 - (m + 1 - 1) = j by omega]⟩ ⟨fun b o e => ?_, ?_, gs', setGen_self (gs := .running) (hsn.gens g _ (setGen_self hgs)), fun s'' hal => ?_⟩ (anc_moved (h' := s₁.heap) hsn hb (KeepAll.refl _) htk)
      · exact hsn.heap b o (Nat.ne_of_lt (hC ▸ Heap.lt_size e)) (hkp b o e)
      · obtain ⟨o, nm, qn, ho, r⟩ := hg
        exact ⟨o, nm, qn, hsn.heap I o (Nat.ne_of_gt hIC) ho, r⟩
      · have := hkap s'' hal
        rw [show N - (j + 1) = m by omega]
        exact this
    · exact absurd hp.1 (Nat.succ_ne_zero m)
  done := fun s Q E st hQ => by
    obtain ⟨hkp, hg, gs, hgs, hgo⟩ := st
    rw [Nat.sub_self] at hgo
    refine wpAny_with_toks (Nat.le_refl s.toks) ?_
    refine next_fn (Pq := fun n s₀ s₁ => n = 0 ∧ Sn C s₀ s₁) hh (B.nolimit.keeps hkp) (by omega) hg hgs (hgo _ fun _ _ _ e => e) (fun v s₁ gs' hb hv => ?_) (fun s₁ hp h' hk => ?_)
    · obtain ⟨_, _, hkap⟩ := hv
      exact (hkap s₁ fun _ _ _ e => e).elim
    · intro htk
      exact hQ _ (anc_moved hp.2 rfl hk htk)
  self := fun j s Q E st hQ => wpAny_pyIter_gen st.2.1 hQ
end

end

section
local macro_rules | `(tactic| walk_at "nm") => `(tactic| first
  | (with_reducible exact up_self)
  | (with_reducible refine up_ne ?_ (by decide +kernel); walk_at "nm")
  | (with_reducible refine cMap_free ?_ (by kernel_rfl); walk_at "nm")
  | (with_reducible assumption)
  | (with_reducible exact rfl))
local macro_rules | `(tactic| walk_at "ld") => `(tactic| refine InF.ld (by assumption) (by walk_at "nm") ?_)
local macro_rules | `(tactic| walk_at "ldn") => `(tactic| refine InF.ldn (by assumption) (by walk_at "nm") ?_)
section
variable {P : Params} {mg mb : Str → Option Value} {h : Heap}
theorem Base.fn99 (B : Base P mg mb h) : h.get? 99 = some (fnObj 99) := B.K _ _ (by kernel_rfl)
theorem Base.cd99 (B : Base P mg mb h) : h.CodeRec (fdAt 99).code (fdAt 99).qualname := codeRec_of B.K (by kernel_rfl)
end
section
variable {prog : Program} {w : World} {A : Around} {E : Value → Shared → Prop} {P : Params} {mg mb : Str → Option Value} {c : Nat → Str} {N : Nat} {p : Str} {s : Shared}

/-- list(_ancestry(p)) -/
theorem anc_list {t : Tok} {Q : Value → Shared → Prop} (B : Base P mg mb s.heap) (ok : AncOk c N p) (hN : N ≤ 1000) (hh : A.handled = none) (hd : A.depth + 40 < recursionLimit)
    (hq : ∀ s' T (vs : List Value), Mv s s' → s.heap.get? T = none → s'.heap.IsList T vs.toArray → vs.length = N → (∀ (j : Nat) v, vs[j]? = some v → ∃ t, v = .str (c j) t) → Q (.ref T) s') :
    wpAny (model prog w) A (call (.ref 99) [.str p t]) (fun v s₁ => wpAny (model prog w) A (call (.type "list") [v]) Q E s₁) E s := by
  refine wpAny_call (codeAny_call_generator (by omega) B.fn99 rfl (by kernel_rfl) (by kernel_rfl) (show (fdAt 99).body = .stmts (bodyAt 99) by kernel_rfl) B.cd99 ?_)
  rw [show bindArgs (fdAt 99) ⟨[.str p t], []⟩ = pure [(Str.ofString "path", .str p t)] by kernel_rfl]
  refine wpAny_pure ?_
  rw [show (fdAt 99).closure = [] by kernel_rfl]
  refine wpAny_newFunctionEnv_cells (by kernel_rfl) (fun x hx => ?_) fun env he s₂ x => ?_
  · left
    rw [List.mem_singleton.mp hx]
    kernel_rfl
  have he' : env = ancEnv s.heap.objs.size := he
  subst he'
  obtain ⟨h₂, tk₂, e⟩ := x.toInCall.same
  subst e
  have hk₂ : KeepAll s.heap h₂ := x.toInCall.keep
  have hn₂ : h₂.Ns s.heap.objs.size _ := x.toInCall.ns
  refine ⟨B.nolimit.keeps hk₂, ?_⟩
  generalize hC : s.heap.objs.size = C at *
  have hIC : C < h₂.objs.size := hn₂.lt
  have W := anc_walks (prog := prog) (w := w) (A := A.in1.in1) (c := c) (N := N) B hC hIC hh (g := s.gens.size) (by show A.depth + 30 < _; omega)
  refine call_list_gen (hn := sizeLine_1000 hN) W (fun j s st => st.2.1.typeIs) ⟨fun b o e => Heap.get?_push_of_some _ (hk₂ b o e), ⟨_, _, _, Heap.get?_push_size _ rfl, rfl, rfl, rfl⟩, _, Array.getElem?_push_size .., fun s'' hal => ⟨rfl, ?_⟩⟩ ?_ (List.mem_cons_self ..) ?_
  · refine anc_start (prog := prog) (w := w) (A := A.in1.in1.in1) B hC ok hh (by show A.depth + 20 < _; omega) s'' s'' t _ (Heap.Ns.at' hn₂ fun o e => hal C o (Nat.le_refl _) (Heap.get?_push_of_some _ e)) ?_ (Sn.refl _ _) fun b o e => hal b o (Nat.le_of_lt (hC ▸ Heap.lt_size e)) (Heap.get?_push_of_some _ (hk₂ b o e))
    kernel_rfl
  · intro b hb
    show b < (h₂.push _).objs.size
    rw [Heap.size_push]
    rcases List.mem_cons.mp hb with rfl | hb
    · exact Nat.lt_succ_self _
    · rcases List.mem_cons.mp hb with rfl | hb
      · exact Nat.lt_succ_of_lt hIC
      · exact Nat.lt_succ_of_lt (Nat.lt_trans (List.mem_range.mp hb) hIC)
  · intro s' acc' c' hm hT hacc
    have hsz : (h₂.push { cls := .type "generator", data := .fields #[.int s.gens.size 0, .str (fdAt 99).name tk₂, .str (fdAt 99).qualname (tk₂ + 1)] }).objs.size = h₂.objs.size + 1 := Heap.size_push ..
    refine hq s' _ acc'.toList ⟨fun b o e => hm.heap b o ?_ (Heap.get?_push_of_some _ (Heap.get?_push_of_some _ (hk₂ b o e))), fun k v e => hm.gens.1 k v ?_ ?_, fun hb => hm.gens.2 ?_, hm.os, hm.drawn⟩ ?_ ⟨_, hT, rfl, c', by simp⟩ (by simpa using hacc.1) (fun j v hj => hacc.2 j v (by simpa using hj))
    · have hb : b < C := hC ▸ Heap.lt_size e
      intro hmem
      rcases List.mem_cons.mp hmem with hbT | hmem
      · have : b = h₂.objs.size + 1 := hbT.trans hsz
        exact absurd (Nat.lt_trans hb hIC) (by rw [this]; exact Nat.not_lt.mpr (Nat.le_succ _))
      · exact absurd (List.mem_singleton.mp hmem) (Nat.ne_of_lt hb)
    · rintro rfl
      rw [Array.getElem?_eq_none (Nat.le_refl _)] at e; cases e
    · have hlt : k < s.gens.size := by
        rcases Nat.lt_or_ge k s.gens.size with h | h
        · exact h
        · rw [Array.getElem?_eq_none h] at e; cases e
      show (s.gens.push _)[k]? = some v
      rw [Array.getElem?_push, if_neg (Nat.ne_of_lt hlt)]; exact e
    · exact AllBare.push hb rfl
    · cases e : s.heap.get? _ with
      | none => rfl
      | some o =>
        have h1 := Heap.lt_size e
        rw [hC] at h1
        have h2 : h₂.objs.size + 1 < C := hsz ▸ h1
        exact absurd (Nat.lt_trans hIC (Nat.lt_succ_self _)) (Nat.not_lt.mpr (Nat.le_of_lt h2))
end

end

section
local macro_rules | `(tactic| walk_at "nm") => `(tactic| first
  | (with_reducible exact up_self)
  | (with_reducible refine up_ne ?_ (by decide +kernel); walk_at "nm")
  | (with_reducible refine cMap_free ?_ (by kernel_rfl); walk_at "nm")
  | (with_reducible assumption)
  | (with_reducible exact rfl))
local macro_rules | `(tactic| walk_at "ld") => `(tactic| refine InF.ld (by assumption) (by walk_at "nm") ?_)
local macro_rules | `(tactic| walk_at "ldn") => `(tactic| refine InF.ldn (by assumption) (by walk_at "nm") ?_)
/-- the cells that a block inside takes from the frame around it -/
def closL (scope : Scope) (env : Env) : List (Str × Addr) := scope.names.foldl (fun cs nk => if nk.2 == .free then (nk.1, (env.cells.lookup nk.1).getD 0) :: cs else cs) []
def freeOk (scope : Scope) (env : Env) : Bool := scope.names.all fun nk => nk.2 != .free || (env.cells.lookup nk.1).isSome
theorem closureFor_closL {scope : Scope} {env : Env} (hf : freeOk scope env = true) : closureFor scope env = pure (closL scope env) := by
  unfold closureFor closL
  unfold freeOk at hf
  generalize scope.names = names at hf
  have key : ∀ (names : List (Str × NameKind)) (acc : List (Str × Addr)), (names.all fun nk => nk.2 != .free || (env.cells.lookup nk.1).isSome) = true →
      (forIn names acc fun (x : Str × NameKind) (r : List (Str × Addr)) => match x with
        | (name, kind) => if (kind == NameKind.free) = true then (do let a ← cellOf env name; pure (ForInStep.yield ((name, a) :: r)) : Sem (ForInStep (List (Str × Addr)))) else pure (ForInStep.yield r)) =
      pure (names.foldl (fun cs nk => if nk.2 == .free then (nk.1, (env.cells.lookup nk.1).getD 0) :: cs else cs) acc) := by
    intro names
    induction names with
    | nil => intro acc _; rfl
    | cons x r ih =>
      intro acc hf
      obtain ⟨n, kd⟩ := x
      simp only [List.all_cons, Bool.and_eq_true] at hf
      rw [List.forIn_cons, List.foldl_cons]
      by_cases hk : (kd == NameKind.free) = true
      · have hs : (env.cells.lookup n).isSome = true := by simpa [beq_iff_eq.mp hk] using hf.1
        obtain ⟨c, hc⟩ := Option.isSome_iff_exists.mp hs
        simp only [hk, if_true]
        have e : cellOf env n = pure c := by unfold cellOf; rw [hc]
        rw [e]
        have := ih ((n, c) :: acc) hf.2
        simp only [hc, Option.getD_some]
        exact this
      · have hk' : (kd == NameKind.free) = false := by simpa using hk
        simp only [hk', Bool.false_eq_true, if_false]
        exact ih acc hf.2
  exact congrArg (fun t => t >>= fun s => (pure s : Sem (List (Str × Addr)))) (key names [] hf)
theorem closL_mem {scope : Scope} {env : Env} (hf : freeOk scope env = true) : ∀ x ∈ closL scope env, (x.1, NameKind.free) ∈ scope.names ∧ env.cells.lookup x.1 = some x.2 := by
  unfold closL
  unfold freeOk at hf
  have key : ∀ (names : List (Str × NameKind)) (acc : List (Str × Addr)), (∀ y ∈ names, y ∈ scope.names) → (names.all fun nk => nk.2 != .free || (env.cells.lookup nk.1).isSome) = true →
      (∀ x ∈ acc, (x.1, NameKind.free) ∈ scope.names ∧ env.cells.lookup x.1 = some x.2) →
      ∀ x ∈ names.foldl (fun cs nk => if nk.2 == .free then (nk.1, (env.cells.lookup nk.1).getD 0) :: cs else cs) acc, (x.1, NameKind.free) ∈ scope.names ∧ env.cells.lookup x.1 = some x.2 := by
    intro names
    induction names with
    | nil => intro acc _ _ h; exact h
    | cons y r ih =>
      intro acc hm hf h
      obtain ⟨n, kd⟩ := y
      simp only [List.all_cons, Bool.and_eq_true] at hf
      rw [List.foldl_cons]
      refine ih _ (fun y hy => hm y (List.mem_cons_of_mem _ hy)) hf.2 ?_
      by_cases hk : (kd == NameKind.free) = true
      · simp only [hk, if_true]
        have hkk := beq_iff_eq.mp hk
        have hs : (env.cells.lookup n).isSome = true := by simpa [hkk] using hf.1
        obtain ⟨c, hc⟩ := Option.isSome_iff_exists.mp hs
        intro x hx
        rcases List.mem_cons.mp hx with rfl | hx
        · simp only [hc, Option.getD_some, and_true]
          have := hm (n, kd) List.mem_cons_self
          rw [hkk] at this; exact this
        · exact h x hx
      · simp only [show (kd == NameKind.free) = false by simpa using hk, Bool.false_eq_true, if_false]
        exact h
  exact key scope.names [] (fun _ h => h) hf fun _ hx => by cases hx

/-- the block's own frame -/
noncomputable def cEnv (scope : Scope) (C : Addr) (env : Env) : Env :=
  { scope := relabel scope env, locals := C, globals := env.globals, cells := cellsFrom (C + 1) scope.names (closL scope env), qual := env.qual, func := none, code := env.code, frame := env.frame, builtins := env.builtins }

theorem cellsFrom_lookup : ∀ (names : List (Str × NameKind)) (n : Nat) (acc : List (Str × Addr)) (x : Str) (c : Addr), (cellsFrom n names acc).lookup x = some c →
    acc.lookup x = some c ∨ ((x, NameKind.cell) ∈ names ∧ n ≤ c)
  | [], n, acc, x, c, h => .inl h
  | (nm, kd) :: r, n, acc, x, c, h => by
    unfold cellsFrom at h
    split at h
    · rename_i hk
      rcases cellsFrom_lookup r (n + 1) _ x c h with h | ⟨h1, h2⟩
      · rw [List.lookup_cons] at h
        cases hx : x == nm with
        | true => rw [hx] at h; cases h; exact .inr ⟨by rw [beq_iff_eq.mp hx, beq_iff_eq.mp hk]; exact List.mem_cons_self, Nat.le_refl _⟩
        | false => rw [hx] at h; exact .inl h
      · exact .inr ⟨List.mem_cons_of_mem _ h1, Nat.le_of_succ_le h2⟩
    · rcases cellsFrom_lookup r n acc x c h with h | ⟨h1, h2⟩
      · exact .inl h
      · exact .inr ⟨List.mem_cons_of_mem _ h1, h2⟩

theorem cellsFrom_mem : ∀ (names : List (Str × NameKind)) (h : Heap) (acc : List (Str × Addr)), (∀ x ∈ acc, x.2 < h.objs.size) → (acc.Pairwise fun x y => x.2 ≠ y.2) →
    (∀ x ∈ cellsFrom h.objs.size names acc, x ∈ acc ∨ (h.objs.size ≤ x.2 ∧ (pushCells h names).IsCell x.2 none)) ∧ ((cellsFrom h.objs.size names acc).Pairwise fun x y => x.2 ≠ y.2)
  | [], h, acc, _, hp => ⟨fun x hx => .inl hx, hp⟩
  | (nm, kd) :: r, h, acc, hl, hp => by
    unfold cellsFrom pushCells
    split
    · have := cellsFrom_mem r (h.push { cls := .type "cell", data := .cell none }) ((nm, h.objs.size) :: acc) (fun x hx => by
          rw [Heap.size_push]
          rcases List.mem_cons.mp hx with rfl | hx
          · exact Nat.lt_succ_self _
          · exact Nat.lt_succ_of_lt (hl x hx)) (List.pairwise_cons.mpr ⟨fun y hy => Ne.symm (Nat.ne_of_lt (hl y hy)), hp⟩)
      rw [Heap.size_push] at this
      refine ⟨fun x hx => ?_, this.2⟩
      rcases this.1 x hx with h1 | ⟨h1, h2⟩
      · rcases List.mem_cons.mp h1 with rfl | h1
        · exact .inr ⟨Nat.le_refl _, Heap.IsCell.keeps ⟨_, Heap.get?_push_size _ rfl, rfl⟩ (pushCells_keeps r _)⟩
        · exact .inl h1
      · exact .inr ⟨Nat.le_of_succ_le h1, h2⟩
    · exact cellsFrom_mem r h acc hl hp

/-- kinds say one thing -/
def distinctB : List Str → Bool
  | [] => true
  | x :: r => !r.contains x && distinctB r
theorem distinctB_pw {α : Type} : ∀ (l : List (Str × α)), distinctB (l.map (·.1)) = true → l.Pairwise fun x y => x.1 ≠ y.1
  | [], _ => .nil
  | x :: r, h => by
    simp only [List.map_cons, distinctB, Bool.and_eq_true, Bool.not_eq_true'] at h
    refine List.pairwise_cons.mpr ⟨fun y hy e => ?_, distinctB_pw r h.2⟩
    have : (r.map (·.1)).contains x.1 = true := by
      rw [List.contains_iff_mem]
      exact e ▸ List.mem_map_of_mem hy
    rw [h.1] at this; cases this
def namesOk (scope : Scope) (env : Env) : Bool := scope.kind == .function && (scope.names.all fun nk => scope.names.lookup nk.1 == some nk.2) && distinctB ((closL scope env).map (·.1)) && freeOk scope env

section
variable {prog : Program} {w : World} {A : Around} {E : Value → Shared → Prop} {env : Env} {s₀ : Rf} {m : Str → Option Value}

/-- the names of the block, as it starts -/
def cMap (scope : Scope) (m : Str → Option Value) : Str → Option Value := fun n => match scope.names.lookup n with
  | some .free => m n
  | _ => none

theorem cEnv_start {scope : Scope} {Q : Env → Shared → Prop} {h : Heap} {gs : Array GenState} {d : Drawn} {k : Nat} {os : OsState} (F : InF s₀ env m h gs d os) (hno : namesOk scope env = true)
    (hQ : ∀ C h' k', C = h.objs.size → KeepAll h h' → h'.Ns C (fun _ => none) → (∀ n c, (cEnv scope C env).cells.lookup n = some c → h'.IsCell c (cMap scope m n)) → ((cEnv scope C env).cells.Pairwise fun x y => x.2 ≠ y.2) →
      (∀ x ∈ (cEnv scope C env).cells, (∃ n, env.cells.lookup n = some x.2) ∨ (C < x.2 ∧ h'.IsCell x.2 none)) → Q { cEnv scope C env with scope := scope } ⟨h', gs, d, k', os⟩) :
    wpAny (model prog w) A (newFunctionEnv scope env.globals (closL scope env) [] env.qual none .none (some env)) Q E ⟨h, gs, d, k, os⟩ := by
  simp only [namesOk, Bool.and_eq_true, beq_iff_eq, List.all_eq_true] at hno
  obtain ⟨⟨⟨hkind, hlook⟩, hdis⟩, hf⟩ := hno
  simp only [newFunctionEnv, Option.isSome_some, if_true]
  refine wpAny_bind (wpAny_alloc ?_)
  refine wpAny_bind (wpAny_layCells _ (fun name kind cells => by cases hkc : kind == NameKind.cell <;> simp [hkc]) _ _ _ _ ?_)
  have hcl := closL_mem hf
  have hlt : ∀ x ∈ closL scope env, x.2 < (h.push { cls := .type "dict", data := .dict #[] }).objs.size := fun x hx => by
    rw [Heap.size_push]; exact Nat.lt_succ_of_lt (F.cell _ _ (hcl x hx).2).lt
  have hpw : (closL scope env).Pairwise fun x y => x.2 ≠ y.2 := by
    refine List.Pairwise.imp_of_mem (fun {x y} hx hy hne e => ?_) (distinctB_pw _ hdis)
    exact hne (name_of_addr F.apart (mem_of_lookup (hcl x hx).2) (e ▸ mem_of_lookup (hcl y hy).2))
  have ok := cellsFrom_mem scope.names (h.push { cls := .type "dict", data := .dict #[] }) (closL scope env) hlt hpw
  have hsz : (h.push { cls := .type "dict", data := .dict #[] }).objs.size = h.objs.size + 1 := Heap.size_push ..
  have keep : KeepAll h (pushCells (h.push { cls := .type "dict", data := .dict #[] }) scope.names) := fun b o e => pushCells_keeps _ _ b o (Heap.get?_push_of_some _ e)
  refine wpAny_bind (wpAny_pure (wpAny_pure ?_))
  have hc : (cEnv scope h.objs.size env).cells = cellsFrom (h.push { cls := .type "dict", data := .dict #[] }).objs.size scope.names (closL scope env) := by rw [hsz]; rfl
  have := hQ h.objs.size _ k rfl keep ((Heap.Ns.new h (.type "dict")).keeps (pushCells_keeps _ _)) ?_ (by rw [hc]; exact ok.2) ?_
  · rw [hsz]; exact this
  · intro n c hnc
    rw [hc] at hnc
    rcases cellsFrom_lookup _ _ _ _ _ hnc with h1 | ⟨h1, h2⟩
    · have hm := hcl _ (mem_of_lookup h1)
      have hl := hlook _ hm.1
      simp only at hl
      simp only [cMap, hl]
      exact (F.cell n c hm.2).keeps keep
    · have hl := hlook _ h1
      simp only at hl
      simp only [cMap, hl]
      rcases ok.1 _ (mem_of_lookup hnc) with h3 | ⟨_, h3⟩
      · exact absurd (hlt _ h3) (Nat.not_lt.mpr h2)
      · exact h3
  · intro x hx
    rw [hc] at hx
    rcases ok.1 x hx with h1 | ⟨h1, h2⟩
    · exact .inl ⟨x.1, (hcl x h1).2⟩
    · exact .inr ⟨by rw [hsz] at h1; exact h1, h2⟩
end

end

section
local macro_rules | `(tactic| walk_at "nm") => `(tactic| first
  | (with_reducible exact up_self)
  | (with_reducible refine up_ne ?_ (by decide +kernel); walk_at "nm")
  | (with_reducible refine cMap_free ?_ (by kernel_rfl); walk_at "nm")
  | (with_reducible assumption)
  | (with_reducible exact rfl))
local macro_rules | `(tactic| walk_at "ld") => `(tactic| refine InF.ld (by assumption) (by walk_at "nm") ?_)
local macro_rules | `(tactic| walk_at "ldn") => `(tactic| refine InF.ldn (by assumption) (by walk_at "nm") ?_)
theorem lookup_relabel {env : Env} : ∀ (names : List (Str × NameKind)) (x : Str),
    (names.map fun (n, k) => if (k == NameKind.free && env.scope.kind == .function && env.kindOf n == some .cell) then (n, NameKind.cell) else (n, k)).lookup x = (names.lookup x).map fun k => if (k == NameKind.free && env.scope.kind == .function && env.kindOf x == some .cell) then NameKind.cell else k
  | [], x => rfl
  | (n, k) :: r, x => by
    have ih := lookup_relabel (env := env) r x
    simp only [List.map_cons]
    cases hx : x == n with
    | true =>
      have := beq_iff_eq.mp hx
      subst this
      simp only [List.lookup_cons, hx]
      split <;> simp_all
    | false =>
      simp only [List.lookup_cons, hx]
      rw [← ih]
      split <;> simp [List.lookup_cons, hx]

theorem fresh_ge {h : Heap} {b : Addr} (hb : h.objs.size ≤ b) : h.get? b = none := by
  cases e : h.get? b with
  | none => rfl
  | some o => exact absurd (Heap.lt_size e) (Nat.not_lt.mpr hb)
theorem keep_fresh {h h' : Heap} (k : KeepAll h h') {b : Addr} (e : h'.get? b = none) : h.get? b = none := by
  cases e' : h.get? b with
  | none => rfl
  | some o => rw [k b o e'] at e; cases e

section
variable {prog : Program} {w : World} {A : Around} {E : Value → Shared → Prop} {env : Env} {s₀ : Rf} {m : Str → Option Value}

theorem cEnv_frame {scope : Scope} {h h' : Heap} {gs : Array GenState} {d : Drawn} {os : OsState} {C : Addr} (F : InF s₀ env m h gs d os) (hC : C = h.objs.size) (K : KeepAll h h') (hn : h'.Ns C (fun _ => none))
    (hcell : ∀ n c, (cEnv scope C env).cells.lookup n = some c → h'.IsCell c (cMap scope m n)) (hpw : (cEnv scope C env).cells.Pairwise fun x y => x.2 ≠ y.2)
    (hm : ∀ x ∈ (cEnv scope C env).cells, (∃ n, env.cells.lookup n = some x.2) ∨ (C < x.2 ∧ h'.IsCell x.2 none)) : InF s₀.tv (cEnv scope C env) (cMap scope m) h' gs d os := by
  refine ⟨⟨_, hn, fun n hl => ?_⟩, hcell, hpw, ⟨?_, fun x hx => ?_⟩, F.keep.trans K, F.gens, F.bare, F.os, F.drawn, fun _ _ _ h => (h trivial).elim⟩
  · have hl' : (scope.names.map fun (n, k) => if (k == NameKind.free && env.scope.kind == .function && env.kindOf n == some .cell) then (n, NameKind.cell) else (n, k)).lookup n = some .local := hl
    rw [lookup_relabel] at hl'
    unfold cMap
    cases e : scope.names.lookup n with
    | none => rfl
    | some k =>
      rw [e] at hl'
      cases k <;> first | rfl | (simp only [Option.map_some] at hl'; split at hl' <;> cases hl')
  · exact keep_fresh F.keep (fresh_ge (Nat.le_of_eq hC.symm))
  · rcases hm x hx with ⟨n, hn⟩ | ⟨h1, _⟩
    · exact F.fresh.2 (n, x.2) (PySem.mem_of_lookup hn)
    · exact keep_fresh F.keep (fresh_ge (by rw [← hC]; exact Nat.le_of_lt h1))

/-- the objects of an iterator are no lists -/
def FieldsAt (h : Heap) (b : Addr) : Prop := ∃ o vs, h.get? b = some o ∧ o.data = .fields vs

/-- a source that a loop draws from: n items, the i-th one as Pv says; nothing that stood is touched -/
structure IterAt (prog : Program) (w : World) (A : Around) (I : Addr) (h h' : Heap) (n : Nat) (Pv : Nat → Value → Prop) (fp₀ fp wr : List Addr) (St : Nat → Heap → Prop) : Prop where
  W : Walks prog w A I fp wr n Pv St
  st : St 0 h'
  wr_new : ∀ b ∈ wr, h.get? b = none
  fp_here : ∀ b ∈ fp, ∃ o, h'.get? b = some o
  fp_st : ∀ i g, St i g → ∀ b ∈ fp, ∃ o, g.get? b = some o
  wr_fields : ∀ i g, St i g → ∀ b ∈ wr, FieldsAt g b
  fp_known : ∀ b ∈ fp, b ∈ fp₀ ∨ h.get? b = none
def IterSrc (prog : Program) (w : World) (A : Around) (xv : Value) (h : Heap) (n : Nat) (Pv : Nat → Value → Prop) (fp₀ : List Addr) : Prop :=
  ∀ (gs : Array GenState) (d : Drawn) (k : Nat) (os : OsState) (Q : Value → Shared → Prop) (E : Value → Shared → Prop),
    (∀ I h' fp wr St, KeepAll h h' → h.get? I = none → IterAt prog w A I h h' n Pv fp₀ fp wr St → Q (.ref I) ⟨h', gs, d, k, os⟩) → wpAny (model prog w) A (pyIter xv) Q E ⟨h, gs, d, k, os⟩

theorem list_src {h : Heap} {a : Addr} {items : Array Value} (hh : A.handled = none) (hl : h.IsList a items) : IterSrc prog w A (.ref a) h items.size (fun i v => items[i]? = some v) [a] := by
  intro gs d k os Q E hq
  obtain ⟨o, ho, _⟩ := id hl
  have hne : a ≠ h.objs.size := lt_of_get ho
  refine wpAny_pyIter_list hl (hq h.objs.size _ _ _ _ (KeepAll.push _ _) (fresh_size h) ⟨Walks.list hh h.objs.size a hne items, ⟨⟨_, Heap.get?_push_size _ rfl, rfl, rfl⟩, hl.push _⟩, fun b hb => ?_, fun b hb => ?_, fun i g hg b hb => ?_, fun i g hg b hb => ?_, fun b hb => ?_⟩)
  · rw [List.mem_singleton.mp hb]; exact fresh_size h
  · rcases List.mem_cons.mp hb with rfl | hb
    · exact ⟨_, Heap.get?_push_size _ rfl⟩
    · rw [List.mem_singleton.mp hb]; exact ⟨_, Heap.get?_push_of_some _ ho⟩
  · rcases List.mem_cons.mp hb with rfl | hb
    · obtain ⟨o, ho, _⟩ := hg.1; exact ⟨o, ho⟩
    · rw [List.mem_singleton.mp hb]; obtain ⟨o, ho, _⟩ := hg.2; exact ⟨o, ho⟩
  · rw [List.mem_singleton.mp hb]; obtain ⟨o, ho, _, hd⟩ := hg.1; exact ⟨o, _, ho, hd⟩
  · rcases List.mem_cons.mp hb with rfl | hb
    · exact .inr (fresh_size h)
    · exact .inl hb

theorem range_src {h : Heap} {r : Addr} {a b : Int} {t u v : Tok} {n : Nat} (hh : A.handled = none) (hr : IsRange h r a b 1 t u v) (hs : Builtin.Range.small a b 1 = true) (hn : Builtin.Range.rangeSize a b 1 = (n : Int)) :
    IterSrc prog w A (.ref r) h n (fun i v => i < n ∧ ∃ t, v = .int (a + (i : Int)) t) [] := by
  intro gs d k os Q E hq
  have W : Walks prog w A h.objs.size [h.objs.size] [h.objs.size] n (fun i v => i < n ∧ ∃ t, v = .int (a + i * 1) t) (fun i g => IsRangeIter g h.objs.size (a + (i : Nat) * 1) ((n : Int) - (i : Nat)) 1) := (Walks.range hh _ a 1 n).bound
  have W' : Walks prog w A h.objs.size [h.objs.size] [h.objs.size] n (fun i v => i < n ∧ ∃ t, v = .int (a + (i : Int)) t) (fun i g => IsRangeIter g h.objs.size (a + (i : Nat) * 1) ((n : Int) - (i : Nat)) 1) := by
    simpa only [Int.mul_one] using W
  refine wpAny_pyIter_range hr hs (hq h.objs.size _ _ _ _ (KeepAll.push _ _) (fresh_size h) ⟨W', ?_, fun b hb => ?_, fun b hb => ?_, fun i g hg b hb => ?_, fun i g hg b hb => ?_, fun b hb => ?_⟩)
  · show IsRangeIter _ _ _ _ _
    rw [hn]; simpa using Heap.get?_push_size _ rfl
  · rw [List.mem_singleton.mp hb]; exact fresh_size h
  · rw [List.mem_singleton.mp hb]; exact ⟨_, Heap.get?_push_size _ rfl⟩
  · rw [List.mem_singleton.mp hb]
    have := hg
    unfold IsRangeIter at this
    exact ⟨_, this⟩
  · rw [List.mem_singleton.mp hb]
    have := hg
    unfold IsRangeIter at this
    exact ⟨_, _, this, rfl⟩
  · rw [List.mem_singleton.mp hb]; exact .inr (fresh_size h)
end

end

section
local macro_rules | `(tactic| walk_at "nm") => `(tactic| first
  | (with_reducible exact up_self)
  | (with_reducible refine up_ne ?_ (by decide +kernel); walk_at "nm")
  | (with_reducible refine cMap_free ?_ (by kernel_rfl); walk_at "nm")
  | (with_reducible assumption)
  | (with_reducible exact rfl))
local macro_rules | `(tactic| walk_at "ld") => `(tactic| refine InF.ld (by assumption) (by walk_at "nm") ?_)
local macro_rules | `(tactic| walk_at "ldn") => `(tactic| refine InF.ldn (by assumption) (by walk_at "nm") ?_)
theorem upd_upd (m : Str → Option Value) (x : Str) (u v : Value) : upd (upd m x u) x v = upd m x v := by
  funext y; unfold upd; split <;> rfl
theorem cMap_free {scope : Scope} {m : Str → Option Value} {n : Str} {r : Option Value} (h : m n = r) (hf : scope.names.lookup n = some .free) : cMap scope m n = r := by
  unfold cMap; rw [hf]; exact h
theorem Paired.impl {α β : Type} {R R' : α → β → Prop} {l : List α} {l' : List β} (h : Paired R l l') (f : ∀ a b, R a b → R' a b) : Paired R' l l' := by
  induction h with
  | nil => exact .nil
  | cons hx _ ih => exact .cons (f _ _ hx) ih
theorem range_filter_snoc (p : Nat → Bool) (i : Nat) : (List.range (i + 1)).filter p = (List.range i).filter p ++ (if p i then [i] else []) := by
  rw [List.range_succ, List.filter_append]
  congr 1
  simp only [List.filter_cons, List.filter_nil]

section
variable {prog : Program} {w : World} {A : Around} {env : Env} {s₀ : Rf} {m : Str → Option Value}

theorem InF.but {wr : List Addr} {h h' : Heap} {gs : Array GenState} {d : Drawn} {os : OsState} (F : InF s₀ env m h gs d os) (k : ∀ b o, b ∉ wr → h.get? b = some o → h'.get? b = some o)
    (hL : env.locals ∉ wr) (hc : ∀ n c, env.cells.lookup n = some c → c ∉ wr) (h0 : ∀ b ∈ wr, s₀.heap.get? b = none)
    (hr : ∀ b ∈ wr, ¬ Fslot env b → ¬ s₀.mu b → s₀.hr.get? b = none := by exact fun _ _ _ h => (h trivial).elim) : InF s₀ env m h' gs d os := by
  refine ⟨?_, fun n c e => ?_, F.apart, F.fresh, fun b o e => k b o (fun hm => ?_) (F.keep b o e), F.gens, F.bare, F.os, F.drawn, fun b o h1 h2 e => k b o (fun hm => by rw [hr b hm h1 h2] at e; cases e) (F.ref b o h1 h2 e)⟩
  · obtain ⟨ml, a, b⟩ := F.ns
    exact ⟨ml, a.at' fun o e => k _ o hL e, b⟩
  · obtain ⟨o, ho, hd⟩ := F.cell n c e
    exact ⟨o, k c o (hc n c e) ho, hd⟩
  · rw [h0 b hm] at e; cases e

/-- what an element of a comprehension must do -/
def EltOk (prog : Program) (w : World) (A : Around) (s₀ : Rf) (env : Env) (m : Str → Option Value) (scope : Scope) (x : Str) (ifs : List Expr) (elt : Expr) (n : Nat) (Pv : Nat → Value → Prop) (p : Nat → Bool) (Fy : Nat → Value → Heap → Prop) (fr : Prop) (s₁ : Shared) : Prop :=
  ∀ (C : Addr) (i : Nat) (v : Value) (h : Heap) (gs : Array GenState) (d : Drawn) (k : Nat) (os : OsState) (E' : Value → Shared → Prop), i < n → Pv i v →
    InF s₀.tv (cEnv scope C env) (upd (cMap scope m) x v) h gs d os → Mv s₁ ⟨h, gs, d, k, os⟩ → s₁.heap.get? C = none →
    wpAny (model prog w) A (forIn ifs true fun c r => if r = true then do let ok ← isTrue c (cEnv scope C env) (eval c (cEnv scope C env)); pure (ForInStep.yield ok) else pure (ForInStep.yield r))
      (fun ok s₄ => (ok = true → p i = true ∧ wpAny (model prog w) A (eval elt (cEnv scope C env)) (fun y s₅ => Mv ⟨h, gs, d, k, os⟩ s₅ ∧ (fr → ∃ a, y = .ref a ∧ h.get? a = none ∧ ∃ o, s₅.heap.get? a = some o) ∧
          ∀ h', (∀ b o, h.get? b = none → s₅.heap.get? b = some o → h'.get? b = some o) → KeepAll s₁.heap h' → Fy i y h') E' s₄) ∧ (ok = false → p i = false ∧ Mv ⟨h, gs, d, k, os⟩ s₄)) E' ⟨h, gs, d, k, os⟩

theorem comp_core {elt iter : Expr} {x : Str} {px : Pos} {ifs : List Expr} {scope : Scope} {pos : Pos} {E : Value → Shared → Prop} {n : Nat} {Pv : Nat → Value → Prop} {p : Nat → Bool} {Fy : Nat → Value → Heap → Prop} {fr : Prop}
    {h₁ h₂ : Heap} {gs : Array GenState} {d : Drawn} {k k₁ : Nat} {os : OsState} {I : Addr} {fp₀ fp wr : List Addr} {St : Nat → Heap → Prop} {RR : Value → Addr → Result → Shared → Prop}
    (F : InF s₀ env m h₁ gs d os) (K : KeepAll h₁ h₂) (T : IterAt prog w A I h₁ h₂ n Pv fp₀ fp wr St) (hn : n ≤ 1000)
    (hno : namesOk scope env = true) (hst : ∀ C, canStore (cEnv scope C env) x = true) (hxf : (scope.names.lookup x != some .free) = true)
    (helt : EltOk prog w A s₀ env m scope x ifs elt n Pv p Fy fr ⟨h₁, gs, d, k₁, os⟩)
    (hRR : ∀ D C s' (ys : List Value) m', h₁.get? D = none → h₁.get? C = none → s'.heap.Ns C m' → D ≠ C → Mv ⟨h₁, gs, d, k₁, os⟩ s' → s'.heap.IsList D ys.toArray → (fr → ys.Pairwise (· ≠ ·)) →
      (∀ h', (∀ b o, b ≠ C → s'.heap.get? b = some o → h'.get? b = some o) → Paired (fun i y => Fy i y h') ((List.range n).filter p) ys) → RR (.ref D) C (.ok .next) s') :
    wpAny (model prog w) A (newList []) (fun acc s₃ => wpAny (model prog w) A (newFunctionEnv scope env.globals (closL scope env) [] env.qual none .none (some env)) (fun cenv s₄ =>
      codeAny (model prog w) A (.compStart (.ListComp elt [⟨.Name x px, iter, ifs, 0⟩] scope pos) 0 (.ref I) acc { cenv with scope := relabel scope env }) (RR acc cenv.locals) s₄) E s₃) E ⟨h₂, gs, d, k, os⟩ := by
  have F₂ := F.grow K
  refine wpAny_newObj_type ?_
  show wpAny _ A _ _ E ⟨h₂.push { cls := .type "list", data := .seq ([] : List Value).toArray }, gs, d, k, os⟩
  generalize hD : h₂.objs.size = D
  generalize hh₃ : h₂.push { cls := .type "list", data := .seq ([] : List Value).toArray } = h₃
  have K₃ : KeepAll h₂ h₃ := hh₃ ▸ KeepAll.push _ _
  have hD₃ : h₃.IsList D #[] := hh₃ ▸ hD ▸ ⟨_, Heap.get?_push_size _ rfl, rfl, 0, rfl⟩
  have hD₂ : h₂.get? D = none := hD ▸ fresh_size h₂
  refine cEnv_start (F₂.grow K₃) hno fun C h₄ k₄ hC K₄ hn₄ hcell hpw hm => ?_
  have F₄ := cEnv_frame (F₂.grow K₃) hC K₄ hn₄ hcell hpw hm
  have hC₃ : h₃.get? C = none := fresh_ge (Nat.le_of_eq hC.symm)
  have hDC : D ≠ C := by
    obtain ⟨o, ho, _⟩ := hD₃
    rintro rfl; rw [hC₃] at ho; cases ho
  have hno' := hno
  simp only [namesOk, Bool.and_eq_true, beq_iff_eq, List.all_eq_true] at hno'
  obtain ⟨⟨⟨hkind, hlook⟩, hdis⟩, hf⟩ := hno'
  -- the block's private objects
  let priv : Addr → Prop := fun b => b = D ∨ b = C ∨ (∃ y, (cEnv scope C env).cells.lookup y = some b ∧ C < b) ∨ b ∈ wr
  have hslot : ∀ b, slotOf (cEnv scope C env) x = some b → priv b := by
    intro b hb
    unfold slotOf at hb
    split at hb
    · cases hb; exact .inr (.inl rfl)
    · rename_i hk
      refine .inr (.inr (.inl ⟨x, hb, ?_⟩))
      rcases cellsFrom_lookup _ _ _ _ _ hb with h1 | ⟨_, h2⟩
      · have hm := closL_mem hf _ (PySem.mem_of_lookup h1)
        have := hlook _ hm.1
        simp only at this
        rw [this] at hxf
        simp at hxf
      · exact h2
    · cases hb
  have hpriv₁ : ∀ b o, h₁.get? b = some o → ¬ priv b := by
    intro b o e hp
    have e₂ := K b o e
    have e₃ := K₃ b o e₂
    rcases hp with rfl | rfl | ⟨y, _, hy⟩ | hw
    · rw [hD₂] at e₂; cases e₂
    · rw [hC₃] at e₃; cases e₃
    · have := fresh_ge (h := h₃) (b := b) (by rw [← hC]; exact Nat.le_of_lt hy)
      rw [this] at e₃; cases e₃
    · rw [T.wr_new b hw] at e; cases e
  have hDfp : D ∉ fp := fun hm => by obtain ⟨o, ho⟩ := T.fp_here D hm; rw [hD₂] at ho; cases ho
  have hCfp : C ∉ fp := fun hm => by obtain ⟨o, ho⟩ := T.fp_here C hm; rw [K₃ _ _ ho] at hC₃; cases hC₃
  have hcfp : ∀ b, C < b → b ∉ fp := fun b hb hm => by
    obtain ⟨o, ho⟩ := T.fp_here b hm
    have := fresh_ge (h := h₃) (b := b) (by rw [← hC]; exact Nat.le_of_lt hb)
    rw [K₃ _ _ ho] at this; cases this
  have hslotfp : ∀ b, slotOf (cEnv scope C env) x = some b → b ∉ fp := by
    intro b hb
    have := hslot b hb
    unfold slotOf at hb
    split at hb
    · cases hb; exact hCfp
    · rcases cellsFrom_lookup _ _ _ _ _ hb with h1 | ⟨_, h2⟩
      · have hm := closL_mem hf _ (PySem.mem_of_lookup h1)
        have := hlook _ hm.1
        simp only at this
        rw [this] at hxf
        simp at hxf
      · exact hcfp b h2
    · cases hb
  have st₄ : St 0 h₄ := T.W.frame _ _ _ T.st fun b _ o e => K₄ _ _ (K₃ _ _ e)
  -- between the turns
  let J : Nat → List Value → Shared → Prop := fun i ys s => i ≤ n ∧ St i s.heap ∧ (∃ mi, InF s₀.tv (cEnv scope C env) mi s.heap s.gens s.drawn s.os ∧ ∀ v, upd mi x v = upd (cMap scope m) x v) ∧ s.heap.IsList D ys.toArray ∧ ys.length ≤ i ∧
    Mv ⟨h₁, gs, d, k₁, os⟩ s ∧ (fr → ∀ y ∈ ys, ∃ a, y = .ref a ∧ ¬ priv a ∧ ∃ o, s.heap.get? a = some o) ∧ (fr → ys.Pairwise (· ≠ ·)) ∧ ∀ h', (∀ b o, ¬ priv b → s.heap.get? b = some o → h'.get? b = some o) → Paired (fun i y => Fy i y h') ((List.range i).filter p) ys
  have loop : codeAny (model prog w) A (.compLoop (.ListComp elt [⟨.Name x px, iter, ifs, 0⟩] scope pos) 0 (.ref I) (.ref D) (cEnv scope C env)) (RR (.ref D) C) ⟨h₄, gs, d, k₄, os⟩ := by
    refine codeAny_compLoop_tests (fun k s => ∃ i ys, k = n - i ∧ J i ys s) (fun k s hJ => ?_) n ⟨0, [], rfl, Nat.zero_le _, st₄, ⟨_, F₄, fun _ => rfl⟩, K₄.seq.list hD₃, Nat.zero_le _, ⟨fun b o e => K₄ _ _ (K₃ _ _ (K _ _ e)), fun _ _ e => e, id, rfl, rfl⟩, (fun _ _ hy => nomatch hy), (fun _ => List.Pairwise.nil), fun _ _ => .nil⟩
    obtain ⟨i, ys, rfl, hi, hst', ⟨mi, Fi, hmi⟩, hl, hys, hmv, hfr, hpw', hp⟩ := hJ
    have hw_fp : ∀ b ∈ wr, b ∈ fp := T.W.sub
    have ns_i : ∃ ml, s.heap.Ns C ml := let ⟨ml, a, _⟩ := Fi.ns; ⟨ml, a⟩
    by_cases hlt : i < n
    · refine T.W.item i s _ _ hlt hst' fun v h₅ tk₅ hPv hst₅ hk₅ => ?_
      have hcell_wr : ∀ y c, (cEnv scope C env).cells.lookup y = some c → c ∉ wr := fun y c hc hm => by
        rcases cellsFrom_lookup _ _ _ _ _ hc with h1 | ⟨_, h2⟩
        · have h3 := closL_mem hf _ (PySem.mem_of_lookup h1)
          obtain ⟨o, ho, _⟩ := F.cell _ _ h3.2
          rw [T.wr_new _ hm] at ho; cases ho
        · exact hcfp c h2 (hw_fp _ hm)
      have F₅ : InF s₀.tv (cEnv scope C env) mi h₅ s.gens s.drawn s.os := Fi.but hk₅ (fun hm => hCfp (hw_fp _ hm)) hcell_wr fun b hm => keep_fresh F.keep (T.wr_new b hm)
      refine assign_Name (InF.st F₅ (fun h₆ k₆ F₆ S₆ O₆ => ?_) (hst C))
      rw [hmi v] at F₆
      have hDw : D ∉ wr := fun hm => hDfp (hw_fp _ hm)
      have hl₅ : h₅.IsList D ys.toArray := by
        obtain ⟨o, ho, r⟩ := hl
        exact ⟨o, hk₅ D o hDw ho, r⟩
      have hl₆ := S₆.list hl₅
      have np₆ : ∀ b o, ¬ priv b → s.heap.get? b = some o → h₆.get? b = some o := fun b o hb e =>
        O₆ b o (fun hs => hb (hslot b hs)) (hk₅ b o (fun hm => hb (.inr (.inr (.inr hm)))) e)
      have hmv₆ : Mv ⟨h₁, gs, d, k₁, os⟩ ⟨h₆, s.gens, s.drawn, k₆, s.os⟩ := ⟨fun b o e => np₆ b o (hpriv₁ b o e) (hmv.keep b o e), hmv.gens, hmv.bare, hmv.os, hmv.drawn⟩
      have st₆ : St (i + 1) h₆ := T.W.frame _ _ _ hst₅ fun b hb o e => O₆ b o (fun hs => hslotfp b hs hb) e
      have priv_here : ∀ b, priv b → ∃ o, h₆.get? b = some o := by
        intro b hb
        rcases hb with rfl | rfl | ⟨y, hy, _⟩ | hm
        · obtain ⟨o, ho, _⟩ := hl₆; exact ⟨o, ho⟩
        · obtain ⟨ml, ⟨o, _, _, ho, _⟩, _⟩ := F₆.ns; exact ⟨o, ho⟩
        · obtain ⟨o, ho, _⟩ := F₆.cell y b hy; exact ⟨o, ho⟩
        · exact T.fp_st _ _ st₆ b (hw_fp _ hm)
      refine wpAny_mono (helt C i v h₆ s.gens s.drawn k₆ s.os _ hlt hPv F₆ hmv₆ (keep_fresh (K.trans K₃) hC₃)) (fun ok s₄ h₄' => ?_) fun _ _ e => e
      cases ok with
      | false =>
        obtain ⟨hpi, mv₄⟩ := h₄'.2 rfl
        simp only [Bool.false_eq_true, if_false]
        refine ⟨n - (i + 1), by omega, i + 1, ys, rfl, hlt, T.W.frame _ _ _ st₆ fun b _ o e => mv₄.keep b o e, ⟨_, InF.aft mv₄ F₆, fun v' => upd_upd _ _ _ _⟩, mv₄.keep.seq.list hl₆, Nat.le_succ_of_le hys, hmv₆.trans mv₄, (fun hf y hy => let ⟨a, e, hn, o, ho⟩ := hfr hf y hy; ⟨a, e, hn, o, mv₄.keep _ _ (np₆ a o hn ho)⟩), hpw', fun h' hk' => ?_⟩
        rw [range_filter_snoc, hpi]
        simp only [Bool.false_eq_true, if_false, List.append_nil]
        exact hp h' fun b o hb e => hk' b o hb (mv₄.keep b o (np₆ b o hb e))
      | true =>
        obtain ⟨hpi, helt'⟩ := h₄'.1 rfl
        simp only [if_true]
        refine wpAny_mono helt' (fun y s₅ h₅' => ?_) fun _ _ e => e
        obtain ⟨mv₅, hfy, hFy⟩ := h₅'
        have hl₇ := mv₅.keep.seq.list hl₆
        refine wpAny_list_append hl₇ (fun h₈ hl₈ hs₈ => ?_) (Nat.le_trans (by simpa using hys) (sizeLine_1000 (Nat.le_trans hi hn)))
        have hDne : ∀ b, ¬ priv b → b ≠ D := fun b hb e => hb (.inl e)
        have kp₈ : ∀ b o, b ≠ D → s₅.heap.get? b = some o → h₈.get? b = some o := fun b o hb e => hs₈.extBut b o hb e
        have F₅' := InF.aft mv₅ F₆
        have F₈ : InF s₀.tv (cEnv scope C env) (upd (cMap scope m) x v) h₈ s₅.gens s₅.drawn s₅.os := F₅'.but (wr := [D]) (fun b o hb e => kp₈ b o (by simpa using hb) e) (fun hm => hDC (List.mem_singleton.mp hm).symm)
          (fun y c hc hm => by
            obtain ⟨o, ho, hd⟩ := F₅'.cell y c hc
            obtain ⟨o', ho', _, _, hd'⟩ := hl₇
            rw [List.mem_singleton.mp hm, ho'] at ho
            cases ho; rw [hd] at hd'; cases hd')
          (fun b hb => by rw [List.mem_singleton.mp hb]; exact keep_fresh F₂.keep hD₂)
        refine ⟨n - (i + 1), by omega, i + 1, ys ++ [y], rfl, hlt, T.W.frame _ _ _ st₆ fun b hb o e => kp₈ b o (fun e' => hDfp (e' ▸ hb)) (mv₅.keep b o e), ⟨_, F₈, fun v' => upd_upd _ _ _ _⟩, ?_, by simp; omega,
          ⟨fun b o e => kp₈ b o (hDne b (hpriv₁ b o e)) (mv₅.keep b o (hmv₆.keep b o e)), fun g z e => mv₅.gens g z (hmv₆.gens g z e), fun e => mv₅.bare (hmv₆.bare e), mv₅.os.trans hmv₆.os, mv₅.drawn.trans hmv₆.drawn⟩, (fun hf y' hy' => ?_), (fun hf => ?_), fun h' hk' => ?_⟩
        · have : (ys ++ [y]).toArray = ys.toArray.push y := by simp
          rw [this]; exact hl₈
        · rcases List.mem_append.mp hy' with hy' | hy'
          · obtain ⟨a, e, hn, o, ho⟩ := hfr hf y' hy'
            exact ⟨a, e, hn, o, kp₈ _ _ (hDne a hn) (mv₅.keep _ _ (np₆ a o hn ho))⟩
          · obtain ⟨a, e, hn, o, ho⟩ := hfy hf
            have hnp : ¬ priv a := fun hb => by obtain ⟨o', ho'⟩ := priv_here a hb; rw [hn] at ho'; cases ho'
            exact ⟨a, (List.mem_singleton.mp hy').trans e, hnp, o, kp₈ _ _ (hDne a hnp) ho⟩
        · refine List.pairwise_append.mpr ⟨hpw' hf, List.pairwise_singleton _ _, fun y₁ h1 y₂ h2 e => ?_⟩
          rw [List.mem_singleton.mp h2] at e
          obtain ⟨a, e1, hn, o, ho⟩ := hfr hf y₁ h1
          obtain ⟨a', e2, hn', _⟩ := hfy hf
          rw [e1, e2] at e; cases e
          rw [np₆ a o hn ho] at hn'; cases hn'
        · rw [range_filter_snoc, hpi]
          simp only [if_true]
          refine Paired.snoc (hp h' fun b o hb e => hk' b o hb (kp₈ b o (hDne b hb) (mv₅.keep b o (np₆ b o hb e)))) (hFy h' (fun b o hn' e => ?_) fun b o e => ?_)
          · have hnp : ¬ priv b := fun hb => by obtain ⟨o', ho'⟩ := priv_here b hb; rw [hn'] at ho'; cases ho'
            exact hk' b o hnp (kp₈ b o (hDne b hnp) e)
          · exact hk' b o (hpriv₁ b o e) (kp₈ b o (hDne b (hpriv₁ b o e)) (mv₅.keep b o (hmv₆.keep b o e)))
    · have hin : i = n := by omega
      subst hin
      refine T.W.done s _ _ hst' fun h₅ tk₅ hk₅ => ?_
      obtain ⟨ml, hns⟩ := ns_i
      have hCw : C ∉ wr := fun hm => hCfp (hw_fp _ hm)
      refine hRR D C _ ys ml (keep_fresh K hD₂) (keep_fresh (K.trans K₃) hC₃) (hns.at' fun o e => hk₅ _ o hCw e) hDC ⟨fun b o e => hk₅ b o (fun hm => hpriv₁ b o e (.inr (.inr (.inr hm)))) (hmv.keep b o e), hmv.gens, hmv.bare, hmv.os, hmv.drawn⟩ ?_ hpw' ?_
      · obtain ⟨o, ho, r⟩ := hl
        exact ⟨o, hk₅ D o (fun hm => hDfp (hw_fp _ hm)) ho, r⟩
      · intro h' hk'
        exact hp h' fun b o hb e => hk' b o (fun e' => hb (.inr (.inl e'))) (hk₅ b o (fun hm => hb (.inr (.inr (.inr hm)))) e)
  exact codeAny_compStart_list loop (T.W.self 0 _ _ _ st₄ loop)

/-- a comprehension over a list or a range -/
theorem listcomp {elt iter : Expr} {x : Str} {px : Pos} {ifs : List Expr} {scope : Scope} {pos : Pos} {E : Value → Shared → Prop} {Q : Value → Shared → Prop} {s : Shared}
    (h : wpAny (model prog w) A (eval iter env) (fun xv s₁ => ∃ n Pv p Fy fp₀ fr, InF s₀ env m s₁.heap s₁.gens s₁.drawn s₁.os ∧ IterSrc prog w A xv s₁.heap n Pv fp₀ ∧ n ≤ 1000 ∧
      EltOk prog w A s₀ env m scope x ifs elt n Pv p Fy fr s₁ ∧
      ∀ s' D (ys : List Value), Mv s₁ s' → s₁.heap.get? D = none → s'.heap.IsList D ys.toArray → (fr → ys.Pairwise (· ≠ ·)) → Paired (fun i y => Fy i y s'.heap) ((List.range n).filter p) ys → Q (.ref D) s') E s)
    (hno : namesOk scope env = true := by kernel_rfl) (hst : ∀ C, canStore (cEnv scope C env) x = true := by intro _; kernel_rfl) (hxf : (scope.names.lookup x != some .free) = true := by kernel_rfl)
    (hs : ∀ x, foldedSetIterable iter env x = pure x := by intro _; rfl) :
    wpAny (model prog w) A (eval (.ListComp elt [⟨.Name x px, iter, ifs, 0⟩] scope pos) env) Q E s := by
  have hno' := hno
  simp only [namesOk, Bool.and_eq_true, beq_iff_eq, List.all_eq_true] at hno'
  obtain ⟨⟨⟨hkind, hlook⟩, hdis⟩, hf⟩ := hno'
  rw [eval_ListComp]
  refine wpAny_comprehension_free (use := none) rfl hs (closureFor_closL hf) hkind (fun y hy hl => by have := hlook y hy; rw [hl] at this; exact this) (wpAny_mono h (fun xv s₁ h₁ => ?_) fun _ _ e => e)
  obtain ⟨n, Pv, p, Fy, fp₀, fr, F, hsrc, hn, helt, hQ⟩ := h₁
  obtain ⟨h₁, gs, d, k, os⟩ := s₁
  refine hsrc gs d k os _ _ fun I h₂ fp wr St K hI T => ?_
  refine comp_core (RR := fun acc C => compPost (model prog w) A E none Q acc C) F K T hn hno hst hxf helt fun D C s' ys m' hD hC hns hDC hmv hl hpw hp => ?_
  refine ⟨m', hns, fun h' hs' => ?_⟩
  have kp : ∀ b o, b ≠ C → s'.heap.get? b = some o → h'.get? b = some o := fun b o hb e => hs'.extBut b o hb e
  have neC : ∀ b o, h₁.get? b = some o → b ≠ C := fun b o e hb => by rw [hb, hC] at e; cases e
  refine hQ _ D ys ⟨fun b o e => kp b o (neC b o e) (hmv.keep b o e), hmv.gens, hmv.bare, hmv.os, hmv.drawn⟩ hD ?_ hpw (hp h' kp)
  obtain ⟨o, ho, r⟩ := hl
  exact ⟨o, kp D o hDC ho, r⟩

/-- y = [.. for x in ..] where the store is exchanged (y a plain local) -/
theorem assign_listcomp {elt iter : Expr} {x y : Str} {px py : Pos} {ifs : List Expr} {scope : Scope} {pos spos : Pos} {E : Value → Shared → Prop} {Q : Flow → Shared → Prop} {s : Shared}
    (hsw : swapsWith (.ListComp elt [⟨.Name x px, iter, ifs, 0⟩] scope pos) (some (.Name y py)) spos.line env = pure true)
    (h : wpAny (model prog w) A (eval iter env) (fun xv s₁ => ∃ n Pv p fp₀, ∃ Fy : Nat → Value → Prop, InF s₀ env m s₁.heap s₁.gens s₁.drawn s₁.os ∧ IterSrc prog w A xv s₁.heap n Pv fp₀ ∧ n ≤ 1000 ∧
      EltOk prog w A s₀ env m scope x ifs elt n Pv p (fun i y _ => Fy i y) False s₁ ∧
      ∀ s' D (ys : List Value), InF s₀ env (upd m y (.ref D)) s'.heap s'.gens s'.drawn s'.os → (∀ b o, slotOf env y ≠ some b → s₁.heap.get? b = some o → s'.heap.get? b = some o) → s₁.heap.get? D = none → s'.heap.IsList D ys.toArray →
        Paired Fy ((List.range n).filter p) ys → Q .next s') E s)
    (hcs : canStore env y = true := by kernel_rfl)
    (hno : namesOk scope env = true := by kernel_rfl) (hst : ∀ C, canStore (cEnv scope C env) x = true := by intro _; kernel_rfl) (hxf : (scope.names.lookup x != some .free) = true := by kernel_rfl)
    (hs : ∀ x, foldedSetIterable iter env x = pure x := by intro _; rfl) :
    wpAny (model prog w) A (exec (.Assign [.Name y py] (.ListComp elt [⟨.Name x px, iter, ifs, 0⟩] scope pos) spos) env) Q E s := by
  have hno' := hno
  simp only [namesOk, Bool.and_eq_true, beq_iff_eq, List.all_eq_true] at hno'
  obtain ⟨⟨⟨hkind, hlook⟩, hdis⟩, hf⟩ := hno'
  rw [exec_Assign_Name_used _ _ _ _ hsw]
  refine wpAny_bind (wpAny_standAt (wpAny_bind ?_))
  show wpAny _ A (do let _ ← comprehension (.ListComp elt [⟨.Name x px, iter, ifs, 0⟩] scope pos) scope env _ (newList []) false (eval iter env) (some (assign (.Name y py) env))) _ _ s
  refine wpAny_bind (wpAny_mono (wpAny_comprehension_free (use := some (assign (.Name y py) env)) (Q := fun _ s' => Q .next s') rfl hs (closureFor_closL hf) hkind (fun y hy hl => by have := hlook y hy; rw [hl] at this; exact this)
    (wpAny_mono h (fun xv s₁ h₁ => ?_) fun _ _ e => e)) (fun _ s' hq => wpAny_pure (wpAny_pure hq)) fun _ _ e => e)
  obtain ⟨n, Pv, p, fp₀, Fy, F, hsrc, hn, helt, hQ⟩ := h₁
  obtain ⟨h₁, gs, d, k, os⟩ := s₁
  refine hsrc gs d k os _ _ fun I h₂ fp wr St K hI T => ?_
  refine comp_core (RR := fun acc C => compPost (model prog w) A E (some (assign (.Name y py) env)) (fun _ s' => Q .next s') acc C) F K T hn hno hst hxf helt fun D C s' ys m' hD hC hns hDC hmv hl hpw hp => ?_
  show wpAny _ A (assign (.Name y py) env (.ref D)) _ _ s'
  have neC : ∀ b o, h₁.get? b = some o → b ≠ C := fun b o e hb => by rw [hb, hC] at e; cases e
  have F' : InF s₀ env m s'.heap s'.gens s'.drawn s'.os := InF.aft (t := ⟨h₁, gs, d, k, os⟩) hmv F
  -- the frame's slot stood before
  have slot₁ : ∀ b, slotOf env y = some b → ∃ o, h₁.get? b = some o := fun b hb => by
    unfold slotOf at hb
    split at hb
    · cases hb; obtain ⟨_, ⟨o, _, _, ho, _⟩, _⟩ := F.ns; exact ⟨o, ho⟩
    · obtain ⟨o, ho, _⟩ := F.cell _ _ hb; exact ⟨o, ho⟩
    · cases hb
  obtain ⟨h₅, gs₅, d₅, k₅, os₅⟩ := s'
  refine assign_Name (InF.st F' (fun h₆ k₆ F₆ S₆ O₆ => ?_) hcs)
  have hCs : slotOf env y ≠ some C := fun e => by obtain ⟨o, ho⟩ := slot₁ C e; exact neC C o ho rfl
  refine ⟨m', hns.at' fun o e => O₆ C o hCs e, fun h' hs' => ?_⟩
  have kp : ∀ b o, b ≠ C → h₆.get? b = some o → h'.get? b = some o := fun b o hb e => hs'.extBut b o hb e
  have F₇ : InF s₀ env (upd m y (.ref D)) h' gs₅ d₅ os₅ := F₆.but (wr := [C]) (fun b o hb e => kp b o (by simpa using hb) e) (fun hm => by
      obtain ⟨_, ⟨o, _, _, ho, _⟩, _⟩ := F.ns
      exact neC _ o ho (List.mem_singleton.mp hm)) (fun n c hc hm => by
      obtain ⟨o, ho, _⟩ := F.cell n c hc
      exact neC _ o ho (List.mem_singleton.mp hm)) (fun b hb => by rw [List.mem_singleton.mp hb]; exact keep_fresh F.keep hC) (fun b hb h1 h2 => by
      rw [List.mem_singleton.mp hb] at h1 h2 ⊢
      cases e : s₀.hr.get? C with
      | none => rfl
      | some o => have := F.ref C o h1 h2 e; rw [hC] at this; cases this)
  refine hQ _ D ys F₇ (fun b o hb e => kp b o (neC b o e) (O₆ b o hb (hmv.keep b o e))) hD ?_ ?_
  · obtain ⟨o, ho, r⟩ := S₆.list hl
    exact ⟨o, kp D o hDC ho, r⟩
  · exact hp h₅ fun _ _ _ e => e
end

end

section
local macro_rules | `(tactic| walk_at "nm") => `(tactic| first
  | (with_reducible exact up_self)
  | (with_reducible refine up_ne ?_ (by decide +kernel); walk_at "nm")
  | (with_reducible refine cMap_free ?_ (by kernel_rfl); walk_at "nm")
  | (with_reducible assumption)
  | (with_reducible exact rfl))
local macro_rules | `(tactic| walk_at "ld") => `(tactic| refine InF.ld (by assumption) (by walk_at "nm") ?_)
local macro_rules | `(tactic| walk_at "ldn") => `(tactic| refine InF.ldn (by assumption) (by walk_at "nm") ?_)
section
variable {prog : Program} {w : World} {A : Around} {env : Env} {r : Rf}

theorem Fslot_ne {m : Str → Option Value} {h : Heap} {gs : Array GenState} {d : Drawn} {os : OsState} (F : InF r env m h gs d os) {b : Addr} {o : Obj} {items : Array Value} {ep : Nat} (hs : Fslot env b) (hd : o.data = .seq items ep) (ho : h.get? b = some o) : False := by
  rcases hs with rfl | ⟨n, hn⟩
  · obtain ⟨ml, ⟨o', es, ep', ho', hd', _⟩, _⟩ := F.ns
    rw [ho] at ho'; cases ho'
    rw [hd] at hd'; cases hd'
  · obtain ⟨o', ho', hd'⟩ := F.cell n _ hn
    rw [ho] at ho'; cases ho'
    rw [hd] at hd'; cases hd'
theorem Fslot_here {m : Str → Option Value} {h : Heap} {gs : Array GenState} {d : Drawn} {os : OsState} (F : InF r env m h gs d os) {b : Addr} (hs : Fslot env b) : ∃ o, h.get? b = some o := by
  rcases hs with rfl | ⟨n, hn⟩
  · obtain ⟨ml, ⟨o', es, ep', ho', hd', _⟩, _⟩ := F.ns; exact ⟨_, ho'⟩
  · obtain ⟨o', ho', hd'⟩ := F.cell n _ hn; exact ⟨_, ho'⟩
theorem InF.back {m m' : Str → Option Value} {h h' : Heap} {gs gs' : Array GenState} {d d' : Drawn} {os os' : OsState} (F : InF r env m h gs d os) (F' : InF (r.now h) env m' h' gs' d' os') : InF r env m' h' gs' d' os' :=
  ⟨F'.ns, F'.cell, F'.apart, F'.fresh, F'.keep, F'.gens, F'.bare, F'.os, F'.drawn, fun b o h1 h2 e => F'.ref b o h1 h2 (F.ref b o h1 h2 e)⟩

def SeqAt (h : Heap) (b : Addr) : Prop := ∃ o items ep, h.get? b = some o ∧ o.data = .seq items ep

/-- a for over a list or a range -/
theorem for_loop {x : Str} {px pos : Pos} {iter : Expr} {body : List Stmt} {E : Value → Shared → Prop} {Q : Flow → Shared → Prop} {s : Shared} (J : Nat → (Str → Option Value) → Heap → Prop)
    (h : wpAny (model prog w) A (eval iter env) (fun xv s₁ => ∃ n Pv fp₀ m, InF r env m s₁.heap s₁.gens s₁.drawn s₁.os ∧ IterSrc prog w A xv s₁.heap n Pv fp₀ ∧ (∀ b, r.mu b → SeqAt s₁.heap b) ∧ (∀ b ∈ fp₀, ¬ r.mu b ∧ SeqAt s₁.heap b) ∧ J 0 m s₁.heap ∧
      (∀ i v m h gs d k os E', i < n → Pv i v → InF (r.now h) env (upd m x v) h gs d os → J i m h → wpAny (model prog w) A (execs body env) (fun f s' => match f with
        | .next | .cont => ∃ m', InF (r.now h) env m' s'.heap s'.gens s'.drawn s'.os ∧ J (i + 1) m' s'.heap
        | .brk => Q .next s'
        | .ret v => Q (.ret v) s') E' ⟨h, gs, d, k, os⟩) ∧
      (∀ m h gs d k os, InF r env m h gs d os → J n m h → Q .next ⟨h, gs, d, k, os⟩)) E s)
    (stab : ∀ i m h h', J i m h → SeqK h h' → J i m h')
    (hst : canStore env x = true := by kernel_rfl)
    (hs : ∀ x, foldedSetIterable iter env x = pure x := by intro _; rfl) :
    wpAny (model prog w) A (exec (.For (.Name x px) iter body [] pos) env) Q E s := by
  refine wpAny_For (wpAny_mono h (fun xv s₁ h₁ => ?_) fun _ _ e => e) (by first | exact hs | exact fun x => hs x)
  obtain ⟨n, Pv, fp₀, m, F, hsrc, hmu, hfp₀, hJ, turn, done⟩ := h₁
  obtain ⟨h₁, gs, d, k, os⟩ := s₁
  refine hsrc gs d k os _ _ fun I h₂ fp wr St K hI T => ?_
  have fp_off : ∀ b ∈ fp, ¬ Fslot env b ∧ ¬ r.mu b := fun b hb => by
    rcases T.fp_known b hb with h0 | h0
    · obtain ⟨h1, o, items, ep, ho, hd⟩ := hfp₀ b h0
      exact ⟨fun hs => Fslot_ne F hs hd ho, h1⟩
    · refine ⟨fun hs => ?_, fun hm => ?_⟩
      · obtain ⟨o, ho⟩ := Fslot_here F hs
        rw [h0] at ho; cases ho
      · obtain ⟨o, _, _, ho, _⟩ := hmu b hm
        rw [h0] at ho; cases ho
  have wr_off : ∀ b ∈ wr, ¬ Fslot env b ∧ ¬ r.mu b := fun b hb => fp_off b (T.W.sub b hb)
  have wr_hr : ∀ b ∈ wr, ¬ Fslot env b → ¬ r.mu b → r.hr.get? b = none := fun b hb h1 h2 => by
    cases e : r.hr.get? b with
    | none => rfl
    | some o => have := F.ref b o h1 h2 e; rw [T.wr_new b hb] at this; cases this
  refine codeAny_forLoop_any (fun k s => ∃ i m, k = n - i ∧ i ≤ n ∧ St i s.heap ∧ InF r env m s.heap s.gens s.drawn s.os ∧ J i m s.heap) (fun k s hI => ?_) n ⟨0, m, rfl, Nat.zero_le _, T.st, F.grow K, stab _ _ _ _ hJ K.seq⟩
  obtain ⟨i, m, rfl, hi, hst', Fi, hJi⟩ := hI
  have seqw : ∀ h', (∀ b o, b ∉ wr → s.heap.get? b = some o → h'.get? b = some o) → SeqK s.heap h' := fun h' hk b o items ep hd e => hk b o (fun hm => by
    obtain ⟨o', vs, ho', hd'⟩ := T.wr_fields _ _ hst' b hm
    rw [e] at ho'; cases ho'
    rw [hd] at hd'; cases hd') e
  have butF : ∀ h', (∀ b o, b ∉ wr → s.heap.get? b = some o → h'.get? b = some o) → InF r env m h' s.gens s.drawn s.os := fun h' hk =>
    Fi.but hk (fun hm => (wr_off _ hm).1 (.inl rfl)) (fun n c hc hm => (wr_off _ hm).1 (.inr ⟨n, hc⟩)) (fun b hb => keep_fresh F.keep (T.wr_new b hb)) wr_hr
  by_cases hlt : i < n
  · refine T.W.item i s _ _ hlt hst' fun v h₅ tk₅ hPv hst₅ hk₅ => ?_
    refine wpAny_of_eq (rfl : letOwnedTupleGo (.Name x px) (.ref I) v = pure ()) ?_
    refine assign_Name (InF.st (butF h₅ hk₅) (fun h₆ k₆ F₆ S₆ O₆ => ?_) hst)
    have st₆ : St (i + 1) h₆ := T.W.frame _ _ _ hst₅ fun b hb o e => O₆ b o (fun hs => (fp_off b hb).1 (slot_Fslot hs)) e
    have hJ₆ := stab _ _ _ _ (stab _ _ _ _ hJi (seqw _ hk₅)) S₆
    refine wpAny_mono (turn i v m h₆ s.gens s.drawn k₆ s.os _ hlt hPv F₆.now hJ₆) (fun f s₃ hf => ?_) fun _ _ e => e
    have fin : (∃ m', InF (r.now h₆) env m' s₃.heap s₃.gens s₃.drawn s₃.os ∧ J (i + 1) m' s₃.heap) → ∃ k', k' < n - i ∧ ∃ i' m, k' = n - i' ∧ i' ≤ n ∧ St i' s₃.heap ∧ InF r env m s₃.heap s₃.gens s₃.drawn s₃.os ∧ J i' m s₃.heap := by
      rintro ⟨m', F', hJ'⟩
      exact ⟨n - (i + 1), by omega, i + 1, m', rfl, hlt, T.W.frame _ _ _ st₆ fun b hb o e => F'.ref b o (fp_off b hb).1 (fp_off b hb).2 e, F₆.back F', hJ'⟩
    cases f with
    | next => exact fin hf
    | cont => exact fin hf
    | brk => exact hf
    | ret v => exact hf
  · have hin : i = n := by omega
    subst hin
    refine T.W.done s _ _ hst' fun h₅ tk₅ hk₅ => ?_
    exact wpAny_execs_nil (done m h₅ s.gens s.drawn tk₅ s.os (butF h₅ hk₅) (stab _ _ _ _ hJi (seqw _ hk₅)))
end

end

section
local macro_rules | `(tactic| walk_at "nm") => `(tactic| first
  | (with_reducible exact up_self)
  | (with_reducible refine up_ne ?_ (by decide +kernel); walk_at "nm")
  | (with_reducible refine cMap_free ?_ (by kernel_rfl); walk_at "nm")
  | (with_reducible assumption)
  | (with_reducible exact rfl))
local macro_rules | `(tactic| walk_at "ld") => `(tactic| refine InF.ld (by assumption) (by walk_at "nm") ?_)
local macro_rules | `(tactic| walk_at "ldn") => `(tactic| refine InF.ldn (by assumption) (by walk_at "nm") ?_)
section
variable {prog : Program} {w : World} {A : Around} {E : Value → Shared → Prop} {env : Env} {pos : Pos} {Q : Value → Shared → Prop} {h : Heap} {gs : Array GenState} {d : Drawn} {k : Nat} {os : OsState}

theorem plain_seq {h : Heap} {l : Addr} {items : Array Value} (x : h.PlainList l items) : SeqAt h l := let ⟨_, e⟩ := x; ⟨_, _, _, e, rfl⟩
theorem list_seq {h : Heap} {l : Addr} {items : Array Value} (x : h.IsList l items) : SeqAt h l := let ⟨o, ho, _, _, hd⟩ := x; ⟨o, _, _, ho, hd⟩
theorem SeqK.plain {h h' : Heap} (k : SeqK h h') {a : Addr} {xs : Array Value} (x : h.PlainList a xs) : h'.PlainList a xs :=
  let ⟨n, e⟩ := x; ⟨n, k _ _ _ _ rfl e⟩

/-- l.append(e) as a statement -/
theorem x_append {o e : Expr} {apos cpos spos : Pos} {Qf : Flow → Shared → Prop} {s : Shared}
    (hh : wpAny (model prog w) A (eval o env) (fun ov s₁ => ∃ l, ov = .ref l ∧ (∃ items, s₁.heap.PlainList l items) ∧ wpAny (model prog w) A (eval e env) (fun v s₂ => match s₂ with
      | ⟨h, gs, d, k, os⟩ => ∃ items, h.PlainList l items ∧ items.size ≤ 1000 ∧ ∀ h', h'.PlainList l (items.push v) → Heap.SameBut l h h' → Qf .next ⟨h', gs, d, k, os⟩) E s₁) E s)
    (hbase : attributeBase o "append" env (eval o env) = eval o env := by rfl) (hs : starEach [e] env = [(false, eval e env)] := by rfl) (hline : (apos.endLine == cpos.line) = true := by decide)
    (hi : interactive env = false := by kernel_rfl) (hsw : swapsWith (.Call (.Attribute o "append" apos) [e] [] cpos) none spos.line env = pure false := by rfl) :
    wpAny (model prog w) A (exec (.Expr (.Call (.Attribute o "append" apos) [e] [] cpos) spos) env) Qf E s := by
  refine wpAny_Expr (Call_method1 hbase hs hline (wpAny_mono hh (fun ov s₁ h₁ => ?_) fun _ _ e => e)) hi hsw
  obtain ⟨l, rfl, ⟨items, n, hl⟩, h₁⟩ := h₁
  refine ⟨"list", "list.append", F.plainAttrs_list, F.slot_list_append, F.type_list_append, ⟨_, hl, rfl⟩, fun a ha => ?_, ?_⟩
  · cases ha; exact ⟨_, hl, rfl⟩
  · refine PySem.P.append_list (wpAny_mono h₁ (fun v s₂ h₂ => ?_) fun _ _ e => e)
    obtain ⟨h, gs, d, k, os⟩ := s₂
    obtain ⟨items', ⟨n', hl'⟩, hsz, hq⟩ := h₂
    refine ⟨items', n', sizeLine_1000 hsz, hl', hq _ ?_ (Heap.SameBut.update ..)⟩
    have := Heap.get?_update_self (Obj.mapSeq fun xs => xs.push v) hl' rfl
    exact ⟨_, this⟩

/-- l.index(e) for texts -/
theorem x_index {o e : Expr} {apos cpos : Pos} {s : Shared}
    (hh : wpAny (model prog w) A (eval o env) (fun ov s₁ => ∃ l, ov = .ref l ∧ (∃ items, s₁.heap.PlainList l items) ∧ wpAny (model prog w) A (eval e env) (fun v s₂ => match s₂ with
      | ⟨h, gs, d, _, os⟩ => ∃ (vs : List Value) (ps : List Str) (x : Str) (t : Tok) (j : Nat), h.PlainList l vs.toArray ∧ StrsAre vs ps ∧ v = .str x t ∧ ps.length ≤ 1000 ∧ ps[j]? = some x ∧ (∀ i, i < j → ps[i]? ≠ some x) ∧ ∀ t k', Q (.int j t) ⟨h, gs, d, k', os⟩) E s₁) E s)
    (hbase : attributeBase o "index" env (eval o env) = eval o env := by rfl) (hs : starEach [e] env = [(false, eval e env)] := by rfl) (hline : (apos.endLine == cpos.line) = true := by decide) :
    wpAny (model prog w) A (eval (.Call (.Attribute o "index" apos) [e] [] cpos) env) Q E s := by
  refine Call_method1 hbase hs hline (wpAny_mono hh (fun ov s₁ h₁ => ?_) fun _ _ e => e)
  obtain ⟨l, rfl, ⟨items, n, hl⟩, h₁⟩ := h₁
  refine ⟨"list", "list.index", F.plainAttrs_list, F.slot_list_index, F.type_list_index, ⟨_, hl, rfl⟩, fun a ha => ?_, ?_⟩
  · cases ha; exact ⟨_, hl, rfl⟩
  · refine PySem.P.index_list (wpAny_mono h₁ (fun v s₂ h₂ => ?_) fun _ _ e => e)
    obtain ⟨h, gs, d, k, os⟩ := s₂
    obtain ⟨vs, ps, x, t, j, ⟨n', hl'⟩, hst, rfl, hlen, hj, hno, hq⟩ := h₂
    have hvl := hst.len_eq
    have hjl : j < ps.length := by
      rcases Nat.lt_or_ge j ps.length with h | h
      · exact h
      · rw [List.getElem?_eq_none h] at hj; cases hj
    refine ⟨vs.toArray, n', isStrOf x, j, by simpa [hvl] using hjl, hl', fun y hy => eq_isStrOf x t hst y (by simpa using hy), by omega, ?_, fun m hm hmj => ?_, hq _ _⟩
    · obtain ⟨u, hu⟩ := hst.at hj
      have : vs[j]'(by simpa [hvl] using hjl) = .str x u := by
        have := List.getElem?_eq_getElem (l := vs) (i := j) (by simpa [hvl] using hjl)
        rw [hu] at this; exact (Option.some.inj this).symm
      simp [this, isStrOf]
    · have hm' : m < vs.length := by simpa using hm
      obtain ⟨y, u, hy, hpy⟩ := hst.item m (vs[m]) (by simp [hm'])
      have hne : y ≠ x := fun e => hno m hmj (e ▸ hpy)
      have : (vs.toArray)[m] = .str y u := by simpa using hy
      rw [this]; simp [isStrOf, hne]

/-- range(n), range(a, b) -/
theorem x_range1 {n : Nat} {t : Tok} (hh : A.handled = none) (hn : n ≤ 1000) (hq : ∀ R h' k', KeepAll h h' → IterSrc prog w A (.ref R) h' n (fun i v => i < n ∧ ∃ t, v = .int (0 + (i : Int)) t) [] → Q (.ref R) ⟨h', gs, d, k', os⟩) :
    wpAny (model prog w) A (call (.type "range") [.int n t]) Q E ⟨h, gs, d, k, os⟩ := by
  refine call_range_1 (hq _ _ _ (KeepAll.push _ _) (range_src hh (IsRange.new ..) ?_ ?_))
  · exact small_one (by omega) (by omega) (by omega) (by omega)
  · unfold Builtin.Range.rangeSize
    simp only [show (1 : Int) > 0 by decide, if_true]
    split
    · rw [Int.ediv_one]; omega
    · omega
theorem x_range2 {a n : Nat} {t u : Tok} (hh : A.handled = none) (ha : a ≤ n) (hn : n ≤ 1000) (hq : ∀ R h' k', KeepAll h h' → IterSrc prog w A (.ref R) h' (n - a) (fun i v => i < n - a ∧ ∃ t, v = .int ((a : Int) + (i : Int)) t) [] → Q (.ref R) ⟨h', gs, d, k', os⟩) :
    wpAny (model prog w) A (call (.type "range") [.int a t, .int n u]) Q E ⟨h, gs, d, k, os⟩ := by
  refine call_range_2 (hq _ _ _ (KeepAll.push _ _) (range_src hh (IsRange.new ..) ?_ ?_))
  · exact small_one (by omega) (by omega) (by omega) (by omega)
  · unfold Builtin.Range.rangeSize
    simp only [show (1 : Int) > 0 by decide, if_true]
    split
    · rw [Int.ediv_one]; omega
    · omega

/-- list(l) -/
theorem x_listcopy {l : Addr} {items : Array Value} (hl : h.IsList l items) (hn : items.size ≤ 1000) (hq : ∀ T h' k', KeepAll h h' → h.get? T = none → h'.PlainList T items → Q (.ref T) ⟨h', gs, d, k', os⟩) :
    wpAny (model prog w) A (call (.type "list") [.ref l]) Q E ⟨h, gs, d, k, os⟩ := by
  obtain ⟨o, ho, hc, n, hd⟩ := hl
  refine call_list_seq l (.inl rfl) ho hc hd (fun h' c' hk hT => hq _ h' _ hk (fresh_size h) ⟨c', hT⟩) (sizeLine_1000 hn)

/-- a list's slice -/
theorem x_sliceFrom {value : Expr} {i : Nat} {kd : Nat} {ip p : Pos} {s : Shared} (hh : wpAny (model prog w) A (eval value env) (fun o s₁ => match s₁ with
      | ⟨h, gs, d, _, os⟩ => ∃ l items, o = .ref l ∧ h.IsList l items ∧ items.size ≤ 1000 ∧ ∀ T h' k', KeepAll h h' → h.get? T = none → h'.PlainList T (items.toList.drop i).toArray → Q (.ref T) ⟨h', gs, d, k', os⟩) E s)
    (ht : ∀ o r, letTemporaryGo value o r = pure () := by intro _ _; rfl) :
    wpAny (model prog w) A (eval (.Subscript value (.Slice (some (.Constant (.int i) kd ip)) none none p) pos) env) Q E s := by
  refine wpAny_Subscript_list_slice (wpAny_mono hh (fun o s₁ h₁ => ?_) fun _ _ e => e) ht
  obtain ⟨h, gs, d, k, os⟩ := s₁
  obtain ⟨l, items, rfl, hl, hsz, hq⟩ := h₁
  refine evalPart_some_step (x_int fun t k => evalPart_none_step ?_)
  refine ⟨l, items, some i, none, rfl, hl, sizeLine_1000 hsz, .int _ _, .none, ?_⟩
  rw [slicePick_from']
  refine hq _ _ _ (fun b o e => Heap.get?_push_of_some _ (Heap.get?_push_of_some _ e)) (fresh_ge (Nat.le_succ _)) ⟨0, ?_⟩
  have := Heap.get?_push_size (h.push { cls := .type "slice", data := .fields #[.int i t, .none, .none] }) (o := { cls := .type "list", data := .seq (items.toList.drop i).toArray }) rfl
  rw [Heap.size_push] at this; exact this
theorem x_sliceUpto {value : Expr} {i : Nat} {kd : Nat} {ip p : Pos} {s : Shared} (hh : wpAny (model prog w) A (eval value env) (fun o s₁ => match s₁ with
      | ⟨h, gs, d, _, os⟩ => ∃ l items, o = .ref l ∧ h.IsList l items ∧ items.size ≤ 1000 ∧ ∀ T h' k', KeepAll h h' → h.get? T = none → h'.PlainList T (items.toList.take i).toArray → Q (.ref T) ⟨h', gs, d, k', os⟩) E s)
    (ht : ∀ o r, letTemporaryGo value o r = pure () := by intro _ _; rfl) :
    wpAny (model prog w) A (eval (.Subscript value (.Slice none (some (.Constant (.int i) kd ip)) none p) pos) env) Q E s := by
  refine wpAny_Subscript_list_slice (wpAny_mono hh (fun o s₁ h₁ => ?_) fun _ _ e => e) ht
  obtain ⟨h, gs, d, k, os⟩ := s₁
  obtain ⟨l, items, rfl, hl, hsz, hq⟩ := h₁
  refine evalPart_none_step (evalPart_some_step (x_int fun t k => ?_))
  refine ⟨l, items, none, some i, rfl, hl, sizeLine_1000 hsz, .none, .int _ _, ?_⟩
  rw [slicePick_upto']
  refine hq _ _ _ (fun b o e => Heap.get?_push_of_some _ (Heap.get?_push_of_some _ e)) (fresh_ge (Nat.le_succ _)) ⟨0, ?_⟩
  have := Heap.get?_push_size (h.push { cls := .type "slice", data := .fields #[.none, .int i t, .none] }) (o := { cls := .type "list", data := .seq (items.toList.take i).toArray }) rfl
  rw [Heap.size_push] at this; exact this

theorem preSum_eq : ∀ (ns : List Int) (n : Nat), n ≤ ns.length → preSum (fun i => ns.getD i 0) n = (ns.take n).sum
  | ns, 0, _ => by simp [preSum]
  | ns, n + 1, h => by
    have hlt : n < ns.length := h
    rw [preSum, preSum_eq ns n (Nat.le_of_lt hlt), List.take_add_one, List.sum_append]
    simp [List.getD, hlt]
/-- sum(l) -/
theorem x_sum {l : Addr} {vs : List Value} {ns : List Int} (hh : A.handled = none) (hl : h.IsList l vs.toArray) (hi : IntsAre vs ns) (hq : ∀ t h' k', KeepAll h h' → Q (.int ns.sum t) ⟨h', gs, d, k', os⟩) :
    wpAny (model prog w) A (call (.builtin "sum") [.ref l]) Q E ⟨h, gs, d, k, os⟩ := by
  have hh' : A.in1.handled = none := hh
  refine call_sum_walkAnyS ?_
  refine list_src (prog := prog) (w := w) hh' hl gs d k os _ _ fun I h₂ fp wr St K hI T => ?_
  refine ⟨I, fp, wr, _, vs.toArray.size, _, _, fun i => ns.getD i 0, rfl, T.W.toS, T.st, fun b hb => ?_, fun i v hv => ?_, fun s' t' hm => ?_⟩
  · obtain ⟨o, ho⟩ := T.fp_here b hb; exact Heap.lt_size ho
  · have hv' : vs[i]? = some v := by simpa using hv
    have hlt : i < vs.length := by
      rcases Nat.lt_or_ge i vs.length with h | h
      · exact h
      · rw [List.getElem?_eq_none h] at hv'; cases hv'
    have hlt' : i < ns.length := hi.length ▸ hlt
    obtain ⟨t, ht⟩ := hi.get i ns[i] (by simp [hlt'])
    rw [hv'] at ht; cases ht
    exact ⟨t, by simp [List.getD, hlt']⟩
  · have e : preSum (fun i => ns.getD i 0) vs.toArray.size = ns.sum := by
      rw [show vs.toArray.size = ns.length by simp [hi.length], preSum_eq ns _ (Nat.le_refl _), List.take_length]
    rw [e]
    obtain ⟨h₃, gs₃, d₃, k₃, os₃⟩ := s'
    have e1 : gs₃ = gs := hm.gens
    have e2 : d₃ = d := hm.drawn
    have e3 : os₃ = os := hm.os
    subst e1 e2 e3
    exact hq _ _ _ fun b o e => hm.heap b o (fun hb => by rw [T.wr_new b hb] at e; cases e) (K b o e)
end

end

section
local macro_rules | `(tactic| walk_at "nm") => `(tactic| first
  | (with_reducible exact up_self)
  | (with_reducible refine up_ne ?_ (by decide +kernel); walk_at "nm")
  | (with_reducible refine cMap_free ?_ (by kernel_rfl); walk_at "nm")
  | (with_reducible assumption)
  | (with_reducible exact rfl))
local macro_rules | `(tactic| walk_at "ld") => `(tactic| refine InF.ld (by assumption) (by walk_at "nm") ?_)
local macro_rules | `(tactic| walk_at "ldn") => `(tactic| refine InF.ldn (by assumption) (by walk_at "nm") ?_)
/-- the tree that the law builds, as plain data -/
def treeNames : List Str := [Str.ofString "s", Str.ofString "sa", Str.ofString "a", Str.ofString "s."]
def treePath (ps : List Str) (x : Int) : Str :=
  (ps.getD (x.fmod ps.length).toNat Str.empty ++ Txt.mul SL (1 + (x.fdiv ps.length).fmod 2)) ++ treeNames.getD (((x.fdiv ps.length).fdiv 2).fmod 4).toNat Str.empty
def treeWorth (ps : List Str) (x : Int) : Int :=
  if ((((x.fdiv ps.length).fdiv 2).fdiv 4).fmod 18 - 9) < 0 then (((x.fdiv ps.length).fdiv 2).fdiv 4).fmod 18 - 9 else (((x.fdiv ps.length).fdiv 2).fdiv 4).fmod 18 - 9 + 1
def treeStep (st : List Str × List Int) (x : Int) : List Str × List Int :=
  if st.1.any (· == treePath st.1 x) then st else (st.1 ++ [treePath st.1 x], st.2 ++ [treeWorth st.1 x])
def tree0 : List Str × List Int := ([Str.ofString "/s", Str.ofString "/s/sa"], [2, 3])
def tree (ns : List Int) : List Str × List Int := (ns.take 6).foldl treeStep tree0

def TreeOk (k : Nat) (st : List Str × List Int) : Prop := 2 ≤ st.1.length ∧ st.1.length ≤ 2 + k ∧ ∀ y ∈ st.1, y.length ≤ 5 + 4 * k
theorem fmod_lt {a : Int} {n : Nat} (hn : 0 < n) : 0 ≤ a.fmod n ∧ a.fmod n < n ∧ (a.fmod n).toNat < n := by
  rw [Int.fmod_eq_emod_of_nonneg a (b := (n : Int)) (by omega)]
  have h1 := Int.emod_nonneg a (b := (n : Int)) (by omega)
  have h2 := Int.emod_lt_of_pos a (b := (n : Int)) (by omega)
  omega
theorem slashes_length {i : Int} (h0 : 0 ≤ i) (h1 : i < 2) : (Txt.mul SL (1 + i)).length ≤ 2 := by
  have : i = 0 ∨ i = 1 := by omega
  rcases this with rfl | rfl <;> decide +kernel
theorem treeNames_length (i : Nat) : (treeNames.getD i Str.empty).length ≤ 2 := by
  match i with
  | 0 | 1 | 2 | 3 => decide +kernel
  | n + 4 => simp [treeNames, Str.empty, Str.length]
theorem str_append_length (a b : Str) : (a ++ b).length = a.length + b.length := by
  show (a.cps ++ b.cps).size = _
  rw [Array.size_append]; rfl
theorem getD_mem {α : Type} {l : List α} {i : Nat} {d : α} (h : i < l.length) : l.getD i d ∈ l := by
  rw [List.getD_eq_getElem?_getD, List.getElem?_eq_getElem h]; exact List.getElem_mem h
theorem treePath_length {k : Nat} {ps : List Str} {x : Int} (h2 : 2 ≤ ps.length) (hl : ∀ y ∈ ps, y.length ≤ 5 + 4 * k) : (treePath ps x).length ≤ 5 + 4 * (k + 1) := by
  unfold treePath
  rw [str_append_length, str_append_length]
  have h1 := hl _ (getD_mem (d := Str.empty) (fmod_lt (a := x) (n := ps.length) (by omega)).2.2)
  have h3 := fmod_lt (a := x.fdiv ps.length) (n := 2) (by omega)
  have h4 := slashes_length h3.1 h3.2.1
  have h5 := treeNames_length (((x.fdiv ps.length).fdiv 2).fmod 4).toNat
  rw [show ((2 : Nat) : Int) = 2 from rfl] at h4
  omega
theorem treeStep_ok {k : Nat} {st : List Str × List Int} {x : Int} (h : TreeOk k st) : TreeOk (k + 1) (treeStep st x) := by
  obtain ⟨h1, h2, h3⟩ := h
  unfold treeStep
  split
  · exact ⟨h1, by omega, fun y hy => by have := h3 y hy; omega⟩
  · refine ⟨by simp; omega, by simp; omega, fun y hy => ?_⟩
    simp only [List.mem_append, List.mem_singleton] at hy
    rcases hy with hy | rfl
    · have := h3 y hy; omega
    · exact treePath_length h1 h3
theorem tree0_ok : TreeOk 0 tree0 := ⟨by decide, by decide, by decide +kernel⟩
theorem treeFold_ok : ∀ (l : List Int) (k : Nat) (st : List Str × List Int), TreeOk k st → TreeOk (k + l.length) (l.foldl treeStep st)
  | [], k, st, h => h
  | x :: r, k, st, h => by
    have := treeFold_ok r (k + 1) _ (treeStep_ok (x := x) h)
    rw [List.foldl_cons, List.length_cons]
    rw [show k + (r.length + 1) = k + 1 + r.length by omega]; exact this
theorem treeTake_ok (l : List Int) (i : Nat) : TreeOk i ((l.take i).foldl treeStep tree0) := by
  have h := treeFold_ok (l.take i) 0 _ tree0_ok
  have hle : (l.take i).length ≤ i := by rw [List.length_take]; omega
  obtain ⟨h1, h2, h3⟩ := h
  exact ⟨h1, by omega, fun y hy => by have := h3 y hy; omega⟩

section
variable {P : Params} {mg mb : Str → Option Value} {h : Heap}
theorem Base.fn106 (B : Base P mg mb h) : h.get? 106 = some (fnObj 106) := B.K _ _ (by kernel_rfl)
theorem Base.cd106 (B : Base P mg mb h) : h.CodeRec (fdAt 106).code (fdAt 106).qualname := codeRec_of B.K (by kernel_rfl)
end
section
variable {prog : Program} {w : World} {A : Around} {E : Value → Shared → Prop} {env : Env} {pos : Pos} {Q : Value → Shared → Prop} {h : Heap} {gs : Array GenState} {d : Drawn} {k : Nat} {os : OsState}
theorem x_list2s {a b : Str} {k₁ k₂ : Nat} {p₁ p₂ : Pos} (hq : ∀ T h' t u k', KeepAll h h' → h.get? T = none → h'.PlainList T #[.str a t, .str b u] → Q (.ref T) ⟨h', gs, d, k', os⟩) :
    wpAny (model prog w) A (eval (.List [.Constant (.str a) k₁ p₁, .Constant (.str b) k₂ p₂] pos) env) Q E ⟨h, gs, d, k, os⟩ :=
  wpAny_List (wpAny_items_cons (x_str fun t k => wpAny_items_cons (x_str fun u k => wpAny_items_nil ⟨(by show 2 ≤ sizeLine; decide), hq _ _ _ _ _ (KeepAll.push _ _) (fresh_size _) ⟨0, Heap.get?_push_size _ rfl⟩⟩)))
theorem x_list2i {a b : Int} {k₁ k₂ : Nat} {p₁ p₂ : Pos} (hq : ∀ T h' t u k', KeepAll h h' → h.get? T = none → h'.PlainList T #[.int a t, .int b u] → Q (.ref T) ⟨h', gs, d, k', os⟩) :
    wpAny (model prog w) A (eval (.List [.Constant (.int a) k₁ p₁, .Constant (.int b) k₂ p₂] pos) env) Q E ⟨h, gs, d, k, os⟩ :=
  wpAny_List (wpAny_items_cons (x_int fun t k => wpAny_items_cons (x_int fun u k => wpAny_items_nil ⟨(by show 2 ≤ sizeLine; decide), hq _ _ _ _ _ (KeepAll.push _ _) (fresh_size _) ⟨0, Heap.get?_push_size _ rfl⟩⟩)))
/-- one of four written texts -/
theorem x_menu4 {r : Rf} {m : Str → Option Value} {x : Str} {a b c e : Str} {k₁ k₂ k₃ k₄ kd : Nat} {p₁ p₂ p₃ p₄ tp xp : Pos} {n : Int} {u : Tok} (F : InF r env m h gs d os) (hv : m x = some (.int n u)) (h0 : 0 ≤ n) (h4 : n < 4)
    (hq : ∀ t h' k', KeepAll h h' → Q (.str ([a, b, c, e].getD n.toNat Str.empty) t) ⟨h', gs, d, k', os⟩) (hc : canRead env x = true := by kernel_rfl) :
    wpAny (model prog w) A (eval (.Subscript (.Tuple [.Constant (.str a) k₁ p₁, .Constant (.str b) k₂ p₂, .Constant (.str c) k₃ p₃, .Constant (.str e) k₄ p₄] kd tp) (.Name x xp) pos) env) Q E ⟨h, gs, d, k, os⟩ := by
  refine sub (wpAny_Tuple (wpAny_items_cons (x_str fun t₁ _ => wpAny_items_cons (x_str fun t₂ _ => wpAny_items_cons (x_str fun t₃ _ => wpAny_items_cons (x_str fun t₄ k => wpAny_items_nil ⟨(by show 4 ≤ sizeLine; decide), ?_⟩))))))
  have hT : (h.push { cls := .type "tuple", data := .seq ([.str a t₁, .str b t₂, .str c t₃, .str e t₄] : List Value).toArray }).IsTuple h.objs.size #[.str a t₁, .str b t₂, .str c t₃, .str e t₄] := ⟨_, Heap.get?_push_size _ rfl, rfl, _, rfl⟩
  have K : KeepAll h (h.push { cls := .type "tuple", data := .seq ([.str a t₁, .str b t₂, .str c t₃, .str e t₄] : List Value).toArray }) := KeepAll.push _ _
  refine InF.ld (F.grow K) hv ?_ hc
  refine ⟨"tuple", _, hT.typeIs, PySem.F.slot_tuple_getitem.lookup, ?_⟩
  have hidx : seqIndex? n 4 = some n.toNat := by
    unfold seqIndex?
    have : n = 0 ∨ n = 1 ∨ n = 2 ∨ n = 3 := by omega
    rcases this with rfl | rfl | rfl | rfl <;> decide
  have hn : n = 0 ∨ n = 1 ∨ n = 2 ∨ n = 3 := by omega
  rcases hn with rfl | rfl | rfl | rfl
  · exact getItem_tuple (x := .str a t₁) hT (by decide) (by decide) hidx rfl (hq _ _ _ K)
  · exact getItem_tuple (x := .str b t₂) hT (by decide) (by decide) hidx rfl (hq _ _ _ K)
  · exact getItem_tuple (x := .str c t₃) hT (by decide) (by decide) hidx rfl (hq _ _ _ K)
  · exact getItem_tuple (x := .str e t₄) hT (by decide) (by decide) hidx rfl (hq _ _ _ K)
end

end

section
local macro_rules | `(tactic| walk_at "nm") => `(tactic| first
  | (with_reducible exact up_self)
  | (with_reducible refine up_ne ?_ (by decide +kernel); walk_at "nm")
  | (with_reducible refine cMap_free ?_ (by kernel_rfl); walk_at "nm")
  | (with_reducible assumption)
  | (with_reducible exact rfl))
local macro_rules | `(tactic| walk_at "ld") => `(tactic| refine InF.ld (by assumption) (by walk_at "nm") ?_)
local macro_rules | `(tactic| walk_at "ldn") => `(tactic| refine InF.ldn (by assumption) (by walk_at "nm") ?_)
theorem InF.len_name {prog : Program} {w : World} {A : Around} {E : Value → Shared → Prop} {Q : Value → Shared → Prop} {r : Rf} {env : Env} {m : Str → Option Value} {h : Heap} {gs : Array GenState} {d : Drawn} {k : Nat} {os : OsState}
    {P : Params} {mg mb : Str → Option Value} {x : Str} {l : Addr} {items : Array Value} {n : Nat} {p₁ p₂ pos : Pos} (F : InF r env m h gs d os) (B : Base P mg mb r.heap) (hv : m x = some (.ref l)) (hl : h.IsList l items) (hn : items.size = n) (h1 : n ≤ 1000)
    (hq : ∀ t k', Q (.int n t) ⟨h, gs, d, k', os⟩) (hc : canRead env x = true := by kernel_rfl) (hg : canGlob env (Str.ofString "len") = true := by kernel_rfl) :
    wpAny (model prog w) A (eval (.Call (.Name (Str.ofString "len") p₁) [.Name x p₂] [] pos) env) Q E ⟨h, gs, d, k, os⟩ := by
  subst hn
  refine call1 (F.built B (B.bi (by kernel_rfl) boot_len').1 (B.bi (by kernel_rfl) boot_len').2 ⟨.inl ⟨_, rfl⟩, InF.ld F hv (x_lenl hl h1 hq) hc⟩ hg)

theorem IntsAre.item : ∀ {vs : List Value} {ns : List Int}, IntsAre vs ns → ∀ (i : Nat) (v : Value), vs[i]? = some v → ∃ n t, v = .int n t ∧ ns[i]? = some n
  | _, _, .nil, _, _, h => by simp at h
  | _, _, .cons n t r, 0, v, h => ⟨n, t, by simpa using h.symm, rfl⟩
  | _, _, .cons n t r, i + 1, v, h => by
    obtain ⟨n', t', a, b⟩ := IntsAre.item r i v (by simpa using h)
    exact ⟨n', t', a, by simpa using b⟩
theorem IntsAre.snoc : ∀ {vs : List Value} {ns : List Int}, IntsAre vs ns → ∀ (n : Int) (t : Tok), IntsAre (vs ++ [.int n t]) (ns ++ [n])
  | _, _, .nil, n, t => .cons n t .nil
  | _, _, .cons a b r, n, t => .cons a b (IntsAre.snoc r n t)
theorem treeStep_len {st : List Str × List Int} {x : Int} (h : st.1.length = st.2.length) : (treeStep st x).1.length = (treeStep st x).2.length := by
  unfold treeStep; split <;> simp [h]
theorem treeFold_len : ∀ (l : List Int) (st : List Str × List Int), st.1.length = st.2.length → (l.foldl treeStep st).1.length = (l.foldl treeStep st).2.length
  | [], _, h => h
  | x :: r, st, h => treeFold_len r _ (treeStep_len h)
theorem StrsAre.snoc : ∀ {vs : List Value} {ns : List Str}, StrsAre vs ns → ∀ (n : Str) (t : Tok), StrsAre (vs ++ [.str n t]) (ns ++ [n])
  | _, _, .nil, n, t => .cons n t .nil
  | _, _, .cons a b r, n, t => .cons a b (StrsAre.snoc r n t)


theorem InF.app {r : Rf} {env : Env} {m : Str → Option Value} {h h' : Heap} {gs : Array GenState} {d : Drawn} {os : OsState} {p : Addr} {items : Array Value} (F : InF r env m h gs d os) (hp : h.PlainList p items) (hs : Heap.SameBut p h h') (hnew : r.heap.get? p = none) (hmu : r.mu p) : InF r env m h' gs d os := by
  obtain ⟨ep, e⟩ := hp
  refine F.but (wr := [p]) (fun b o hb e => hs.extBut b o (by simpa using hb) e) (fun hm => ?_) (fun n c hc hm => ?_) (fun b hb => by rw [List.mem_singleton.mp hb]; exact hnew) (fun b hb _ h2 => (h2 (by rw [List.mem_singleton.mp hb]; exact hmu)).elim)
  · exact Fslot_ne F (b := p) (.inl (List.mem_singleton.mp hm).symm) rfl e
  · exact Fslot_ne F (b := p) (.inr ⟨n, by rw [← List.mem_singleton.mp hm]; exact hc⟩) rfl e
theorem plain_but {h h' : Heap} {p q : Addr} {items : Array Value} (hq : h.PlainList q items) (hs : Heap.SameBut p h h') (hne : p ≠ q) : h'.PlainList q items :=
  let ⟨n, e⟩ := hq; ⟨n, hs.extBut _ _ (fun x => hne x.symm) e⟩
theorem slash_mul2 {i : Int} (h0 : 0 ≤ i) (h1 : i < 2) : MulOk SL (1 + i) := by
  have : 1 + i = ((1 + i).toNat : Nat) := by omega
  rw [this]; exact slash_mulOk (by omega)
section
variable {prog : Program} {w : World} {A : Around} {E : Value → Shared → Prop} {s : Shared} {P : Params} {mg mb : Str → Option Value}

theorem tree_spec {sc : Addr} {vs : List Value} {ns : List Int} {Q : Value → Shared → Prop} (B : Base P mg mb s.heap) (hh : A.handled = none) (hd : A.depth + 5 < recursionLimit) (hsc : s.heap.IsList sc vs.toArray) (hi : IntsAre vs ns) (hlen : ns.length ≤ 63)
    (hQ : ∀ s' T p q (vp vq : List Value), Mv s s' → s'.heap.IsTuple T #[.ref p, .ref q] → s'.heap.PlainList p vp.toArray → StrsAre vp (tree ns).1 → s'.heap.PlainList q vq.toArray → IntsAre vq (tree ns).2 → p ≠ q → s.heap.get? p = none → s.heap.get? q = none → Q (.ref T) s') :
    wpAny (model prog w) A (call (.ref 106) [.ref sc]) Q E s := by
  refine call_own (binds := [(Str.ofString "script", .ref sc)]) B (by omega) B.fn106 B.cd106 (by kernel_rfl) (by kernel_rfl) (by intro _; kernel_rfl) fun L s₁ hL F => ?_
  simp only [argM] at F
  obtain ⟨h₁, gs, d, k₁, os⟩ := s₁
  have hh' : (A.deeper (callEnvC (fdAt 106) L 106)).handled = none := hh
  have hsc₁ : h₁.IsList sc vs.toArray := F.keep.seq.list hsc
  -- paths, worths
  refine wpAny_execs_cons (wpAny_Assign_Name (x_list2s fun p h₂ t₁ t₂ k₂ K₂ hp0 hp => ?_))
  refine (F.grow K₂).st fun h₃ k₃ F₃ S₃ _ => ?_
  refine wpAny_execs_cons (wpAny_Assign_Name (x_list2i fun q h₄ t₃ t₄ k₄ K₄ hq0 hq => ?_))
  refine (F₃.grow K₄).st fun h₅ k₅ F₅ S₅ _ => ?_
  have hp₅ := S₅.plain (K₄.seq.plain (S₃.plain hp))
  have hq₅ := S₅.plain hq
  have hpq : p ≠ q := by
    rintro rfl
    obtain ⟨n, e⟩ := S₃.plain hp
    rw [hq0] at e; cases e
  have hps : s.heap.get? p = none := keep_fresh F.keep hp0
  have hqs : s.heap.get? q = none := keep_fresh F₃.keep hq0
  have hsc₅ : h₅.IsList sc vs.toArray := F₅.keep.seq.list hsc
  have hscp : sc ≠ p := by rintro rfl; obtain ⟨o, ho, _⟩ := hsc; rw [hps] at ho; cases ho
  have hscq : sc ≠ q := by rintro rfl; obtain ⟨o, ho, _⟩ := hsc; rw [hqs] at ho; cases ho
  have F₆ := F₅.may fun b => b = p ∨ b = q
  refine wpAny_execs_cons (for_loop (r := (Rf.of s s.heap fun _ => False).may h₅ fun b => b = p ∨ b = q) (J := fun i m h => ∃ vp vq : List Value, m (Str.ofString "paths") = some (.ref p) ∧ m (Str.ofString "worths") = some (.ref q) ∧
      h.PlainList p vp.toArray ∧ StrsAre vp (((ns.take 6).take i).foldl treeStep tree0).1 ∧ h.PlainList q vq.toArray ∧ IntsAre vq (((ns.take 6).take i).foldl treeStep tree0).2)
    (x_sliceUpto (i := 6) (InF.ld F₆ (by walk_at "nm") ?_)) ?_)
  · refine ⟨sc, vs.toArray, rfl, hsc₅, by simp [hi.length]; omega, fun T h₇ k₇ K₇ hT0 hT => ?_⟩
    have hvl : vs.length = ns.length := hi.length
    refine ⟨_, _, _, _, F₆.grow K₇, list_src hh' hT.isList, ?_, ?_, ?_, ?_, ?_⟩
    · rintro b (rfl | rfl)
      · exact plain_seq (K₇.seq.plain hp₅)
      · exact plain_seq (K₇.seq.plain hq₅)
    · intro b hb
      rw [List.mem_singleton.mp hb]
      refine ⟨?_, plain_seq hT⟩
      rintro (rfl | rfl)
      · obtain ⟨n, e⟩ := hp₅; rw [hT0] at e; cases e
      · obtain ⟨n, e⟩ := hq₅; rw [hT0] at e; cases e
    · exact ⟨_, _, by walk_at "nm", by walk_at "nm", K₇.seq.plain hp₅, .cons _ _ (.cons _ _ .nil), K₇.seq.plain hq₅, .cons _ _ (.cons _ _ .nil)⟩
    · -- a turn
      rintro i v m h gs d k os E' hlt hPv F ⟨vp, vq, hmp, hmq, hp, hvp, hq, hvq⟩
      have hv := hPv
      simp only [List.getElem?_toArray, List.getElem?_take] at hv
      split at hv
      case isFalse => cases hv
      rename_i hi6
      obtain ⟨x, ux, rfl, hx⟩ := IntsAre.item hi i v hv
      have hx6 : (ns.take 6)[i]? = some x := by rw [List.getElem?_take, if_pos hi6]; exact hx
      have hstep : ((ns.take 6).take (i + 1)).foldl treeStep tree0 = treeStep (((ns.take 6).take i).foldl treeStep tree0) x := by
        rw [List.take_add_one, hx6, List.foldl_append]; rfl
      obtain ⟨ok1, ok2, ok3⟩ := treeTake_ok (ns.take 6) i
      have okl := treeFold_len ((ns.take 6).take i) tree0 rfl
      rw [hstep]
      revert okl hvp hvq ok1 ok2 ok3
      generalize ((ns.take 6).take i).foldl treeStep tree0 = st
      intro hvp hvq ok1 ok2 ok3 okl
      have hpl : vp.length = st.1.length := hvp.len_eq
      have hpos : ((st.1.length : Nat) : Int) ≠ 0 := by omega
      refine wpAny_execs_cons (Assign_Tuple (call2 (InF.built F B B.divmod.1 B.divmod.2 ⟨.inl ⟨_, rfl⟩, ?_⟩)))
      walk_at "ld"
      refine InF.len_name F B (by walk_at "nm") hp.isList (n := st.1.length) (by simpa using hpl) (by omega) fun t k => ?_
      refine x_divmod hpos (by omega) fun T h₇ t u k K₇ _ hT => ?_
      have F := F.grow K₇
      refine x_assignT2 hh' hT fun h₈ K₈ => ?_
      have F := F.grow K₈
      refine assign_Name (InF.st F fun h₉ k F S₉ _ => assign_Name (InF.st F fun h₁₀ k F S₁₀ _ => ?_))
      have S := ((K₇.trans K₈).seq.trans S₉).trans S₁₀
      have hp := S.plain hp; have hq := S.plain hq
      -- x, slashes = divmod(x, 2)
      refine wpAny_execs_cons (Assign_Tuple (call2 (InF.built F B B.divmod.1 B.divmod.2 ⟨.inl ⟨_, rfl⟩, ?_⟩)))
      walk_at "ld"
      refine x_int fun t k => x_divmod (by decide) (by decide) fun T h₇ t u k K₇ _ hT => ?_
      have F := F.grow K₇
      refine x_assignT2 hh' hT fun h₈ K₈ => ?_
      have F := F.grow K₈
      refine assign_Name (InF.st F fun h₉ k F S₉ _ => assign_Name (InF.st F fun h₁₀ k F S₁₀ _ => ?_))
      have S := ((K₇.trans K₈).seq.trans S₉).trans S₁₀
      have hp := S.plain hp; have hq := S.plain hq
      -- x, name = divmod(x, 4)
      refine wpAny_execs_cons (Assign_Tuple (call2 (InF.built F B B.divmod.1 B.divmod.2 ⟨.inl ⟨_, rfl⟩, ?_⟩)))
      walk_at "ld"
      refine x_int fun t k => x_divmod (by decide) (by decide) fun T h₇ t u k K₇ _ hT => ?_
      have F := F.grow K₇
      refine x_assignT2 hh' hT fun h₈ K₈ => ?_
      have F := F.grow K₈
      refine assign_Name (InF.st F fun h₉ k F S₉ _ => assign_Name (InF.st F fun h₁₀ k F S₁₀ _ => ?_))
      have S := ((K₇.trans K₈).seq.trans S₉).trans S₁₀
      have hp := S.plain hp; have hq := S.plain hq
      have g1 := fmod_lt (a := x) (n := st.1.length) (by omega)
      have g2 := fmod_lt (a := x.fdiv st.1.length) (n := 2) (by omega)
      have g3 := fmod_lt (a := (x.fdiv st.1.length).fdiv 2) (n := 4) (by omega)
      rw [show ((2 : Nat) : Int) = 2 from rfl] at g2
      rw [show ((4 : Nat) : Int) = 4 from rfl] at g3
      have hpx : st.1[(x.fmod st.1.length).toNat]? = some (st.1.getD (x.fmod st.1.length).toNat Str.empty) := by
        rw [List.getD_eq_getElem?_getD, List.getElem?_eq_getElem g1.2.2]; rfl
      obtain ⟨up, hup⟩ := hvp.at hpx
      have hlen0 := ok3 _ (getD_mem (d := Str.empty) g1.2.2)
      have hlen1 := slashes_length g2.1 g2.2.1
      have hlen2 := treeNames_length (((x.fdiv st.1.length).fdiv 2).fmod 4).toNat
      have hsz1 : (st.1.getD (x.fmod st.1.length).toNat Str.empty ++ Txt.mul SL (1 + (x.fdiv st.1.length).fmod 2)).length ≤ sizeLine := by rw [str_append_length]; exact sizeLine_1000 (by omega)
      have hsz2 : (treePath st.1 x).length ≤ sizeLine := by unfold treePath; rw [str_append_length, str_append_length]; exact sizeLine_1000 (by omega)
      -- path
      refine wpAny_execs_cons (wpAny_Assign_Name (wpAny_BinOp (wpAny_BinOp (subList ?_))))
      walk_at "ld"
      walk_at "ld"
      refine ⟨_, _, _, _, _, rfl, rfl, hp.isList, g1.1, by omega, (List.getElem?_toArray).trans hup, ?_⟩
      refine wpAny_BinOp (x_str fun t k => wpAny_BinOp (x_int fun t k => ?_))
      walk_at "ld"
      refine x_add fun t k => x_muls (slash_mul2 g2.1 g2.2.1) fun t k => x_adds hsz1 fun t k => ?_
      refine x_menu4 F (by walk_at "nm") g3.1 g3.2.1 fun t h₁₁ k K₁₁ => ?_
      refine x_adds hsz2 fun t k => ?_
      refine InF.st (F.grow K₁₁) fun h₁₂ k F S₁₂ _ => ?_
      have S := K₁₁.seq.trans S₁₂
      have hp := S.plain hp; have hq := S.plain hq
      change InF _ _ (upd _ _ (.str (treePath st.1 x) _)) _ _ _ _ at F
      -- if path not in paths
      refine wpAny_execs_cons (wpAny_If (wpAny_isTrue_Compare1 ?_))
      walk_at "ld"
      walk_at "ld"
      refine notin_list_strs hp.isList hvp (wpAny_truthy_bool ?_)
      cases hin : st.1.any (· == treePath st.1 x) with
      | true =>
        simp only [Bool.not_true, Bool.false_eq_true, if_false]
        refine wpAny_execs_nil (wpAny_execs_nil ?_)
        have e : treeStep st x = st := by unfold treeStep; rw [if_pos hin]
        rw [e]
        exact ⟨_, F, _, _, by walk_at "nm", by walk_at "nm", hp, hvp, hq, hvq⟩
      | false =>
        simp only [Bool.not_false, if_true]
        have e : treeStep st x = (st.1 ++ [treePath st.1 x], st.2 ++ [treeWorth st.1 x]) := by unfold treeStep; rw [if_neg (by simp [hin])]
        rw [e]
        refine wpAny_execs_cons (wpAny_Assign_Name (wpAny_BinOp (wpAny_BinOp ?_)))
        walk_at "ld"
        refine x_int fun t k => x_mod (by decide) fun t k => x_int fun t k => x_sub fun t k => ?_
        refine InF.st F fun h₁₃ k F S₁₃ _ => ?_
        have hp := S₁₃.plain hp; have hq := S₁₃.plain hq
        -- paths.append(path)
        refine wpAny_execs_cons (x_append ?_)
        walk_at "ld"
        refine ⟨p, rfl, ⟨_, hp⟩, ?_⟩
        walk_at "ld"
        refine ⟨_, hp, by simpa [hpl] using (by omega : st.1.length ≤ 1000), fun h₁₄ hp' B₁₄ => ?_⟩
        have hq := plain_but hq B₁₄ hpq
        have F := F.app hp B₁₄ hps (.inl rfl)
        -- worths.append(..)
        refine wpAny_execs_cons (x_append ?_)
        walk_at "ld"
        refine ⟨q, rfl, ⟨_, hq⟩, wpAny_IfExp (wpAny_isTrue_Compare1 ?_)⟩
        walk_at "ld"
        refine x_int fun t k => PySem.P.lt_int (wpAny_truthy_bool ?_)
        have hql : vq.length = st.2.length := hvq.length
        split
        · rename_i hw
          have ew : treeWorth st.1 x = _ := if_pos (by simpa using hw)
          rw [ew]
          walk_at "ld"
          refine ⟨_, hq, by simpa using (by omega : vq.length ≤ 1000), fun h₁₅ hq' B₁₅ => ?_⟩
          have hp := plain_but hp' B₁₅ (fun e => hpq e.symm)
          have F := F.app hq B₁₅ hqs (.inr rfl)
          refine wpAny_execs_nil (wpAny_execs_nil ?_)
          rw [List.push_toArray] at hp hq'
          exact ⟨_, F, _, _, by walk_at "nm", by walk_at "nm", hp, StrsAre.snoc hvp _ _, hq', IntsAre.snoc hvq _ _⟩
        · rename_i hw
          have ew : treeWorth st.1 x = _ := if_neg (by simpa using hw)
          rw [ew]
          refine wpAny_BinOp ?_
          walk_at "ld"
          refine x_int fun t k => x_add fun t k => ?_
          refine ⟨_, hq, by simpa using (by omega : vq.length ≤ 1000), fun h₁₅ hq' B₁₅ => ?_⟩
          have hp := plain_but hp' B₁₅ (fun e => hpq e.symm)
          have F := F.app hq B₁₅ hqs (.inr rfl)
          refine wpAny_execs_nil (wpAny_execs_nil ?_)
          rw [List.push_toArray] at hp hq'
          exact ⟨_, F, _, _, by walk_at "nm", by walk_at "nm", hp, StrsAre.snoc hvp _ _, hq', IntsAre.snoc hvq _ _⟩
    · -- the end
      rintro m h gs d k os F ⟨vp, vq, hmp, hmq, hp, hvp, hq, hvq⟩
      have hfull : ((ns.take 6).take (vs.toArray.toList.take 6).toArray.size) = ns.take 6 := by
        apply List.take_of_length_le
        simp [hvl]
      rw [hfull] at hvp hvq
      refine wpAny_execs_cons (wpAny_Return_some (x_tuple2 ?_))
      walk_at "ld"
      walk_at "ld"
      intro T' h' K' _ hT'
      exact hQ _ T' p q vp vq ((F.grow K').mvo (s := ⟨_, _, _, _, _⟩)) hT' (K'.seq.plain hp) hvp (K'.seq.plain hq) hvq hpq hps hqs
  · rintro i m h h' ⟨vp, vq, a, b, c, d, e, f⟩ K
    exact ⟨vp, vq, a, b, K.plain c, d, K.plain e, f⟩
end

end

section
local macro_rules | `(tactic| walk_at "nm") => `(tactic| first
  | (with_reducible exact up_self)
  | (with_reducible refine up_ne ?_ (by decide +kernel); walk_at "nm")
  | (with_reducible refine cMap_free ?_ (by kernel_rfl); walk_at "nm")
  | (with_reducible assumption)
  | (with_reducible exact rfl))
local macro_rules | `(tactic| walk_at "ld") => `(tactic| refine InF.ld (by assumption) (by walk_at "nm") ?_)
local macro_rules | `(tactic| walk_at "ldn") => `(tactic| refine InF.ldn (by assumption) (by walk_at "nm") ?_)
/-- the law's matrix steps, as plain data -/
def stepM (k : Nat) (b : Int) (M : Nat → Nat → Int) : Nat → Nat → Int := fun i j => if k < i ∧ k < j then (M i j * M k k - M i k * M k j).fdiv b else M i j
def swapN (k f i : Nat) : Nat := if i = k then f else if i = f then k else i
inductive DetRun (n : Nat) : Nat → (Nat → Nat → Int) → Int → Int → Int → Prop
  | done {M : Nat → Nat → Int} {s b : Int} : DetRun n n M s b (s * b)
  | zero {k : Nat} {M : Nat → Nat → Int} {s b : Int} : k < n → (∀ i, k ≤ i → i < n → M i k = 0) → DetRun n k M s b 0
  | step {k : Nat} {M : Nat → Nat → Int} {s b r : Int} (f : Nat) : k ≤ f → f < n → M f k ≠ 0 → (∀ i, k ≤ i → i < f → M i k = 0) → (∀ i j, k ≤ i → i < n → k ≤ j → j < n → (M i j).natAbs < 2 ^ 63) → b ≠ 0 → b.natAbs < 2 ^ 63 →
      DetRun n (k + 1) (stepM k b fun i j => M (swapN k f i) j) (if f = k then s else -s) (M f k) r → DetRun n k M s b r

theorem mulOk_of {a b : Int} (h : b.natAbs < 2 ^ 63) : IntMulOk a b := IntMulOk.of_right (intBits_le_64 (by omega) (by omega))
theorem mulOk_of' {a b : Int} (h : a.natAbs < 2 ^ 63) : IntMulOk a b := IntMulOk.of_left (intBits_le_64 (by omega) (by omega))

/-- a square list of lists of ints -/
def TabAt (h : Heap) (T : Addr) (n : Nat) (M : Nat → Nat → Int) : Prop :=
  ∃ items : Array Value, h.IsList T items ∧ items.size = n ∧ ∀ i, i < n → ∃ a its, items[i]? = some (.ref a) ∧ h.IsList a its ∧ its.size = n ∧ ∀ j, j < n → ∃ t, its[j]? = some (.int (M i j) t)

structure MatAt (h0 : Heap) (mu : Addr → Prop) (h : Heap) (R : Addr) (n : Nat) (ra : Nat → Addr) (M : Nat → Nat → Int) : Prop where
  rows : ∃ items : Array Value, h.IsList R items ∧ items.size = n ∧ ∀ i, i < n → items[i]? = some (.ref (ra i))
  row : ∀ i, i < n → ∃ items : Array Value, h.IsList (ra i) items ∧ items.size = n ∧ ∀ j, j < n → ∃ t, items[j]? = some (.int (M i j) t)
  inj : ∀ i j, i < n → j < n → ra i = ra j → i = j
  ne : ∀ i, i < n → ra i ≠ R
  own : ∀ b, mu b ↔ b = R ∨ ∃ i, i < n ∧ b = ra i
  new : ∀ b, mu b → h0.get? b = none

section
variable {h0 h h' : Heap} {mu : Addr → Prop} {R : Addr} {n : Nat} {ra : Nat → Addr} {M M' : Nat → Nat → Int}
theorem MatAt.congr (x : MatAt h0 mu h R n ra M) (e : ∀ i j, i < n → j < n → M i j = M' i j) : MatAt h0 mu h R n ra M' :=
  ⟨x.rows, fun i hi => let ⟨its, a, b, c⟩ := x.row i hi; ⟨its, a, b, fun j hj => let ⟨t, ht⟩ := c j hj; ⟨t, by rw [ht, e i j hi hj]⟩⟩, x.inj, x.ne, x.own, x.new⟩
theorem MatAt.keep (x : MatAt h0 mu h R n ra M) (k : SeqK h h') : MatAt h0 mu h' R n ra M :=
  ⟨let ⟨its, a, b⟩ := x.rows; ⟨its, k.list a, b⟩, fun i hi => let ⟨its, a, b⟩ := x.row i hi; ⟨its, k.list a, b⟩, x.inj, x.ne, x.own, x.new⟩
theorem MatAt.seq (x : MatAt h0 mu h R n ra M) (b : Addr) (hb : mu b) : SeqAt h b := by
  rcases (x.own b).mp hb with rfl | ⟨i, hi, rfl⟩
  · obtain ⟨its, a, _⟩ := x.rows; exact list_seq a
  · obtain ⟨its, a, _⟩ := x.row i hi; exact list_seq a
theorem list_but {h h' : Heap} {p q : Addr} {items : Array Value} (hq : h.IsList q items) (hs : Heap.SameBut p h h') (hne : q ≠ p) : h'.IsList q items :=
  let ⟨o, ho, r⟩ := hq; ⟨o, hs.extBut _ _ hne ho, r⟩
/-- one entry changed -/
theorem MatAt.set (x : MatAt h0 mu h R n ra M) {i j : Nat} (hi : i < n) (hj : j < n) {its : Array Value} {v : Int} {t : Tok} (hold : h.IsList (ra i) its)
    (hl : h'.IsList (ra i) (its.setIfInBounds j (.int v t))) (hs : Heap.SameBut (ra i) h h') : MatAt h0 mu h' R n ra (fun i' j' => if i' = i ∧ j' = j then v else M i' j') := by
  refine ⟨let ⟨its, a, b⟩ := x.rows; ⟨its, list_but a hs (x.ne i hi).symm, b⟩, fun i' hi' => ?_, x.inj, x.ne, x.own, x.new⟩
  obtain ⟨its', a, b, c⟩ := x.row i' hi'
  by_cases e : i' = i
  · subst e
    have : its = its' := by
      obtain ⟨o, ho, _, n, hd⟩ := hold
      obtain ⟨o', ho', _, n', hd'⟩ := a
      rw [ho] at ho'; cases ho'
      rw [hd] at hd'; cases hd'; rfl
    subst this
    refine ⟨_, hl, by simpa using b, fun j' hj' => ?_⟩
    by_cases ej : j' = j
    · subst ej
      refine ⟨t, ?_⟩
      rw [Array.getElem?_setIfInBounds_self_of_lt (by omega)]; simp
    · obtain ⟨t', ht'⟩ := c j' hj'
      refine ⟨t', ?_⟩
      rw [Array.getElem?_setIfInBounds_ne (fun e => ej e.symm)]; simp [ej, ht']
  · refine ⟨its', list_but a hs (fun e' => e (x.inj _ _ hi' hi e')), b, fun j' hj' => ?_⟩
    obtain ⟨t', ht'⟩ := c j' hj'
    exact ⟨t', by simp [e, ht']⟩
/-- the list of rows turned -/
theorem MatAt.turn (x : MatAt h0 mu h R n ra M) {k f : Nat} (hk : k < n) (hf : f < n) {its : Array Value}
    (hl : h'.IsList R its) (hz : its.size = n) (hv : ∀ i, i < n → its[i]? = some (.ref (ra (swapN k f i)))) (ho : ∀ i, i < n → ∀ xs, h.IsList (ra i) xs → h'.IsList (ra i) xs) : MatAt h0 mu h' R n (fun i => ra (swapN k f i)) (fun i j => M (swapN k f i) j) := by
  have hsw : ∀ i, i < n → swapN k f i < n := fun i hi => by unfold swapN; split; exact hf; split; exact hk; exact hi
  have hss : ∀ i, swapN k f (swapN k f i) = i := fun i => by unfold swapN; split <;> split <;> (try split) <;> omega
  refine ⟨⟨its, hl, hz, hv⟩, fun i hi => ?_, fun i j hi hj e => ?_, fun i hi => x.ne _ (hsw i hi), fun b => ?_, x.new⟩
  · obtain ⟨xs, a, b, c⟩ := x.row _ (hsw i hi)
    exact ⟨xs, ho _ (hsw i hi) _ a, b, c⟩
  · have := x.inj _ _ (hsw i hi) (hsw j hj) e
    rw [← hss i, ← hss j, this]
  · rw [x.own b]
    refine or_congr Iff.rfl ⟨fun ⟨i, hi, e⟩ => ⟨swapN k f i, hsw i hi, by rw [hss]; exact e⟩, fun ⟨i, hi, e⟩ => ⟨swapN k f i, hsw i hi, e⟩⟩
end

theorem InF.appL {r : Rf} {env : Env} {m : Str → Option Value} {h h' : Heap} {gs : Array GenState} {d : Drawn} {os : OsState} {p : Addr} {items : Array Value} (F : InF r env m h gs d os) (hp : h.IsList p items) (hs : Heap.SameBut p h h') (hnew : r.heap.get? p = none) (hmu : r.mu p) : InF r env m h' gs d os := by
  obtain ⟨o, ho, hc, ep, e⟩ := hp
  refine F.but (wr := [p]) (fun b o hb e => hs.extBut b o (by simpa using hb) e) (fun hm => ?_) (fun n c hc hm => ?_) (fun b hb => by rw [List.mem_singleton.mp hb]; exact hnew) (fun b hb _ h2 => (h2 (by rw [List.mem_singleton.mp hb]; exact hmu)).elim)
  · exact Fslot_ne F (b := p) (.inl (List.mem_singleton.mp hm).symm) e ho
  · exact Fslot_ne F (b := p) (.inr ⟨n, by rw [← List.mem_singleton.mp hm]; exact hc⟩) e ho

section
variable {prog : Program} {w : World} {A : Around} {E : Value → Shared → Prop} {env : Env} {Q : Value → Shared → Prop} {r : Rf} {m : Str → Option Value} {h : Heap} {gs : Array GenState} {d : Drawn} {k : Nat} {os : OsState}

/-- rows[x][y] -/
theorem x_cell {h0 : Heap} {mu : Addr → Prop} {R : Addr} {n : Nat} {ra : Nat → Addr} {M : Nat → Nat → Int} {z x y : Str} {i j : Nat} {a b : Int} {t u : Tok} {p₁ p₂ p₃ p₄ p₅ : Pos} (F : InF r env m h gs d os) (hM : MatAt h0 mu h R n ra M)
    (hz : m z = some (.ref R)) (hx : m x = some (.int a t)) (hy : m y = some (.int b u)) (ea : a = i) (eb : b = j) (hi : i < n) (hj : j < n) (hn : n ≤ 1000)
    (hq : ∀ t, Q (.int (M i j) t) ⟨h, gs, d, k, os⟩) (hcz : canRead env z = true := by kernel_rfl) (hcx : canRead env x = true := by kernel_rfl) (hcy : canRead env y = true := by kernel_rfl) :
    wpAny (model prog w) A (eval (.Subscript (.Subscript (.Name z p₁) (.Name x p₂) p₃) (.Name y p₄) p₅) env) Q E ⟨h, gs, d, k, os⟩ := by
  subst ea; subst eb
  obtain ⟨items, hl, hs, hit⟩ := hM.rows
  obtain ⟨its, hl', hs', hit'⟩ := hM.row i hi
  obtain ⟨t', ht'⟩ := hit' j hj
  refine subList (subList (InF.ld F hz (InF.ld F hx ?_ hcx) hcz))
  refine ⟨_, _, _, _, _, rfl, rfl, hl, by omega, by omega, hit i hi, InF.ld F hy ?_ hcy⟩
  exact ⟨_, _, _, _, _, rfl, rfl, hl', by omega, by omega, ht', hq t'⟩
end

theorem execs_cut {M : Model} {A : Around} {E : Value → Shared → Prop} {s : Shared} {env : Env} {st : Stmt} {rest : List Stmt} {Q : Flow → Shared → Prop} (P : Shared → Prop) (h1 : wpAny M A (exec st env) (fun f s' => f = .next ∧ P s') E s)
    (h2 : ∀ s', P s' → wpAny M A (execs rest env) Q E s') : wpAny M A (execs (st :: rest) env) Q E s := by
  refine wpAny_execs_cons (wpAny_mono h1 (fun f s' hf => ?_) fun _ _ e => e)
  obtain ⟨rfl, hp⟩ := hf
  exact h2 s' hp

theorem range_filter_head {m a : Nat} {l : List Nat} {p : Nat → Bool} (h : (List.range m).filter p = a :: l) : p a = true ∧ a < m ∧ ∀ i, i < a → p i = false := by
  obtain ⟨l₁, l₂, e, hn, hp, _⟩ := List.filter_eq_cons_iff.mp h
  have hm := congrArg List.length e
  simp at hm
  have get : ∀ i (hi : i < m), (l₁ ++ a :: l₂)[i]? = some i := fun i hi => by rw [← e]; simp [hi]
  have ha := get l₁.length (by omega)
  simp at ha
  subst ha
  refine ⟨hp, by omega, fun i hi => ?_⟩
  have := get i (by omega)
  rw [List.getElem?_append_left hi] at this
  have := hn i (List.mem_of_getElem? this)
  simpa using this

noncomputable def detLoop : List Stmt := match (bodyAt 111).drop 3 with
  | Stmt.For _ _ b _ _ :: _ => b
  | _ => []
section
variable {P : Params} {mg mb : Str → Option Value} {h : Heap}
theorem Base.fn111 (B : Base P mg mb h) : h.get? 111 = some (fnObj 111) := B.K _ _ (by kernel_rfl)
theorem Base.cd111 (B : Base P mg mb h) : h.CodeRec (fdAt 111).code (fdAt 111).qualname := codeRec_of B.K (by kernel_rfl)
end

end

section
local macro_rules | `(tactic| walk_at "nm") => `(tactic| first
  | (with_reducible exact up_self)
  | (with_reducible refine up_ne ?_ (by decide +kernel); walk_at "nm")
  | (with_reducible refine cMap_free ?_ (by kernel_rfl); walk_at "nm")
  | (with_reducible assumption)
  | (with_reducible exact rfl))
local macro_rules | `(tactic| walk_at "ld") => `(tactic| refine InF.ld (by assumption) (by walk_at "nm") ?_)
local macro_rules | `(tactic| walk_at "ldn") => `(tactic| refine InF.ldn (by assumption) (by walk_at "nm") ?_)
def partM (k : Nat) (b : Int) (M : Nat → Nat → Int) (a c : Nat) : Nat → Nat → Int := fun i j => if k < i ∧ k < j ∧ (i < k + 1 + a ∨ (i = k + 1 + a ∧ j < k + 1 + c)) then stepM k b M i j else M i j
theorem partM_next {k : Nat} {b : Int} {M : Nat → Nat → Int} {a c : Nat} (i j : Nat) : (if i = k + 1 + a ∧ j = k + 1 + c then (partM k b M a c (k + 1 + a) (k + 1 + c) * partM k b M a c k k - partM k b M a c (k + 1 + a) k * partM k b M a c k (k + 1 + c)).fdiv b else partM k b M a c i j) = partM k b M a (c + 1) i j := by
  have e1 : partM k b M a c (k + 1 + a) (k + 1 + c) = M (k + 1 + a) (k + 1 + c) := if_neg (by omega)
  have e2 : partM k b M a c k k = M k k := if_neg (by omega)
  have e3 : partM k b M a c (k + 1 + a) k = M (k + 1 + a) k := if_neg (by omega)
  have e4 : partM k b M a c k (k + 1 + c) = M k (k + 1 + c) := if_neg (by omega)
  rw [e1, e2, e3, e4]
  by_cases h : i = k + 1 + a ∧ j = k + 1 + c
  · obtain ⟨rfl, rfl⟩ := h
    rw [if_pos ⟨rfl, rfl⟩]
    unfold partM
    rw [if_pos (by omega)]
    unfold stepM
    rw [if_pos (by omega)]
  · rw [if_neg h]
    unfold partM
    by_cases h' : k < i ∧ k < j ∧ (i < k + 1 + a ∨ (i = k + 1 + a ∧ j < k + 1 + c))
    · rw [if_pos h', if_pos (by omega)]
    · rw [if_neg h', if_neg (by omega)]
theorem partM_row {k : Nat} {b : Int} {M : Nat → Nat → Int} {a n : Nat} {i j : Nat} (hj : j < n) : partM k b M a (n - (k + 1)) i j = partM k b M (a + 1) 0 i j := by
  unfold partM
  by_cases h : k < i ∧ k < j ∧ (i < k + 1 + a ∨ (i = k + 1 + a ∧ j < k + 1 + (n - (k + 1))))
  · rw [if_pos h, if_pos (by omega)]
  · rw [if_neg h, if_neg (by omega)]
theorem partM_end {k : Nat} {b : Int} {M : Nat → Nat → Int} {n : Nat} {i j : Nat} (hi : i < n) : partM k b M (n - (k + 1)) 0 i j = stepM k b M i j := by
  unfold partM
  by_cases h : k < i ∧ k < j ∧ (i < k + 1 + (n - (k + 1)) ∨ (i = k + 1 + (n - (k + 1)) ∧ j < k + 1 + 0))
  · rw [if_pos h]
  · rw [if_neg h]; unfold stepM; rw [if_neg (by omega)]

theorem x_assignSub {M : Model} {A : Around} {E : Value → Shared → Prop} {s : Shared} {env : Env} {o i : Expr} {pos : Pos} {v : Value} {Q : Unit → Shared → Prop}
    (h : wpAny M A (eval o env) (fun ov s₂ => wpAny M A (eval i env) (fun iv s₃ => wpAny M A (setItem ov iv v) Q E s₃) E s₂) E s) : wpAny M A (assign (.Subscript o i pos) env v) Q E s := fun Γ p hΓ => by
  simp only [PySem.assign_Subscript, Sem.wp_bind', Sem.wp_holding, Sem.wp_cmd_standAt, Sem.wp_release]
  exact Sem.wp_mono M Γ _ (fun ov p₂ s₂ h₂ => Sem.wp_mono M Γ _ (fun iv _ s₃ h₃ => h₃ Γ _ hΓ)
    (fun _ _ _ h' => h') _ _ (h₂ Γ p₂ hΓ)) (fun _ _ _ h' => h') _ _ (h Γ p hΓ)

theorem Base.range' {P : Params} {mg mb : Str → Option Value} {h : Heap} (B : Base P mg mb h) : mg (Str.ofString "range") = none ∧ mb (Str.ofString "range") = some (.type "range") := B.bi (by kernel_rfl) boot_range'
section
variable {prog : Program} {w : World} {A : Around} {E : Value → Shared → Prop} {P : Params} {mg mb : Str → Option Value} {r : Rf}

def DetJ (r : Rf) (n : Nat) (R : Addr) (res : Int) (k : Nat) (m : Str → Option Value) (h : Heap) : Prop :=
  ∃ M s b ra t u, MatAt r.heap r.mu h R n ra M ∧ m (Str.ofString "rows") = some (.ref R) ∧ m (Str.ofString "sign") = some (.int s t) ∧ m (Str.ofString "before") = some (.int b u) ∧ s.natAbs ≤ 1 ∧ DetRun n k M s b res

theorem det_turn {L : Addr} {m : Str → Option Value} {h : Heap} {gs : Array GenState} {d : Drawn} {tk : Nat} {os : OsState} {Qr : Value → Shared → Prop} {k n : Nat} {R : Addr} {res : Int} {tk₀ : Tok}
    (B : Base P mg mb r.heap) (hh : A.handled = none) (hu : A.units + 64 < cLine) (hn : n ≤ 1000) (hk : k < n) (F : InF r (callEnvC (fdAt 111) L 111) m h gs d os)
    (hJ : DetJ r n R res k m h) (hkm : m (Str.ofString "k") = some (.int k tk₀))
    (hret : ∀ s' t m', InF r (callEnvC (fdAt 111) L 111) m' s'.heap s'.gens s'.drawn s'.os → Qr (.int res t) s') :
    wpAny (model prog w) A (execs detLoop (callEnvC (fdAt 111) L 111)) (fun f s' => match f with
      | .next | .cont => ∃ m', InF r (callEnvC (fdAt 111) L 111) m' s'.heap s'.gens s'.drawn s'.os ∧ DetJ r n R res (k + 1) m' s'.heap
      | .brk => False
      | .ret v => Qr v s') E ⟨h, gs, d, tk, os⟩ := by
  obtain ⟨M, sg, b, ra, tsg, tb, hM, hR, hsg, hb, hs1, hrun⟩ := hJ
  obtain ⟨items, hl, hsz, hit⟩ := hM.rows
  -- found = [i for i in range(k, len(rows)) if rows[i][k] != 0]
  refine wpAny_execs_cons (assign_listcomp (m := m) (s₀ := r) (by rfl) (call2 (InF.built F B B.range'.1 B.range'.2 ⟨.inr ⟨_, rfl⟩, ?_⟩)) )
  walk_at "ld"
  refine InF.len_name F B (by walk_at "nm") hl hsz hn fun t z => ?_
  refine x_range2 hh (Nat.le_of_lt hk) hn fun X h₁ k₁ K₁ hsrc => ?_
  have F₁ := F.grow K₁
  have hM₁ := hM.keep K₁.seq
  refine ⟨_, _, fun i => decide (M (k + i) k ≠ 0), _, fun i y => ∃ t, y = .int ((k : Int) + i) t, F₁, hsrc, by omega, ?_, ?_⟩
  · rintro C i v h' gs' d' k' os' E' hi ⟨_, tv, rfl⟩ F' hmv hC
    have hM' := hM₁.keep hmv.keep.seq
    refine wpAny_tests_one (wpAny_isTrue_Compare1 (x_cell F' hM' (by walk_at "nm") (by walk_at "nm") (by walk_at "nm") (i := k + i) (j := k) (by omega) rfl (by omega) hk hn fun t => ?_))
    refine x_int fun t k₂ => PySem.P.ne_int (wpAny_truthy_bool ⟨fun h0 => ⟨?_, ?_⟩, fun h0 => ⟨?_, Mv.of (KeepAll.refl _)⟩⟩)
    · simpa using h0
    · walk_at "ld"
      exact ⟨Mv.of (KeepAll.refl _), fun x => x.elim, fun _ _ _ => ⟨_, rfl⟩⟩
    · simpa using h0
  · intro s₂ D ys F₂ O₂ hD hys hfy
    have K₂ : SeqK h₁ s₂.heap := fun b o items ep hd e => O₂ b o (fun hs => F₁.seq_ne (s := ⟨h₁, gs, d, k₁, os⟩) hs hd e rfl) e
    have hM₂ := hM₁.keep K₂
    obtain ⟨h₂, gs, d, k₂, os⟩ := s₂
    have hints : ∀ (l : List Nat) (ys : List Value), Paired (fun i y => ∃ t, y = .int ((k : Int) + i) t) l ys → IntsAre ys (l.map fun i : Nat => (k : Int) + i) := by
      intro l ys hp
      induction hp with
      | nil => exact .nil
      | cons hx _ ih => obtain ⟨t, rfl⟩ := hx; exact .cons _ _ ih
    have hI := hints _ _ hfy
    -- if found == []: return 0
    refine wpAny_execs_cons (wpAny_If (wpAny_isTrue_Compare1 ?_))
    walk_at "ld"
    refine x_list0 fun T h₃ K₃ _ hT => ?_
    refine eq_intsK (K₃.seq.list hys) hI (us := []) (ns := _) (ms := []) (by simpa using hT) .nil hu (wpAny_truthy_bool ?_)
    have F₃ := F₂.grow K₃
    have hM₃ := hM₂.keep K₃.seq
    have hD₃ := K₃.seq.list hys
    split
    · rename_i hnil
      have hnil : (List.range (n - k)).filter (fun i => decide (M (k + i) k ≠ 0)) = [] := by simpa using hnil
      have h0 : ∀ i, k ≤ i → i < n → M i k = 0 := fun i h1 h2 => by
        have := List.filter_eq_nil_iff.mp hnil (i - k) (by simp; omega)
        rw [show k + (i - k) = i by omega] at this
        simpa using this
      have hres : res = 0 := by
        cases hrun with
        | done => omega
        | zero => rfl
        | step f h1 h2 h3 => exact absurd (h0 f h1 h2) h3
      subst hres
      refine wpAny_execs_cons (wpAny_Return_some (x_int fun t z => ?_))
      exact hret _ _ _ F₃
    · rename_i hne
      have hne : (List.range (n - k)).filter (fun i => decide (M (k + i) k ≠ 0)) ≠ [] := by simpa using hne
      obtain ⟨f₀, rest, hfl⟩ : ∃ a l, (List.range (n - k)).filter (fun i => decide (M (k + i) k ≠ 0)) = a :: l := by
        cases e : (List.range (n - k)).filter (fun i => decide (M (k + i) k ≠ 0)) with
        | nil => exact absurd e hne
        | cons a l => exact ⟨a, l, rfl⟩
      obtain ⟨g1, g2, g3⟩ := range_filter_head hfl
      have g1 : M (k + f₀) k ≠ 0 := by simpa using g1
      have g3 : ∀ i, i < f₀ → M (k + i) k = 0 := fun i hi => by simpa using g3 i hi
      rw [hfl] at hI
      obtain ⟨tf, hf0⟩ := hI.get 0 ((k : Int) + f₀) (by simp)
      have hf0 : ys.toArray[((0 : Int)).toNat]? = some (.int ((k : Int) + f₀) tf) := by simpa using hf0
      cases hrun with
      | done => omega
      | zero _ h0 => exact absurd (h0 _ (by omega) (by omega)) g1
      | step f e1 e2 e3 e4 e5 e6 e7 hrun =>
      have hff : f = k + f₀ := by
        rcases Nat.lt_trichotomy f (k + f₀) with h | h | h
        · exact absurd (by have := g3 (f - k) (by omega); rwa [show k + (f - k) = f by omega] at this) e3
        · exact h
        · exact absurd (e4 _ (by omega) h) g1
      subst hff
      refine wpAny_execs_nil ?_
      -- if found[0] != k: the rows change places
      refine execs_cut (fun s' => ∃ m' ts, InF r (callEnvC (fdAt 111) L 111) m' s'.heap s'.gens s'.drawn s'.os ∧ MatAt r.heap r.mu s'.heap R n (fun i => ra (swapN k (k + f₀) i)) (fun i j => M (swapN k (k + f₀) i) j) ∧
        m' (Str.ofString "rows") = some (.ref R) ∧ m' (Str.ofString "k") = some (.int k tk₀) ∧ m' (Str.ofString "before") = some (.int b tb) ∧ m' (Str.ofString "sign") = some (.int (if k + f₀ = k then sg else -sg) ts)) ?_ ?_
      · refine wpAny_If (wpAny_isTrue_Compare1 (subList ?_))
        walk_at "ld"
        refine x_int fun t z => ⟨_, _, _, _, _, rfl, rfl, hD₃, by decide, by decide, hf0, ?_⟩
        walk_at "ld"
        refine PySem.P.ne_int (wpAny_truthy_bool ?_)
        by_cases hfz : f₀ = 0
        · subst hfz
          simp only [Int.add_zero, bne_self_eq_false, Bool.false_eq_true, if_false, Int.cast_ofNat_Int]
          refine wpAny_execs_nil ⟨rfl, ?_⟩
          have hid : ∀ i, swapN k k i = i := fun i => by unfold swapN; split <;> (try split) <;> omega
          refine ⟨_, tsg, F₃, ?_, by walk_at "nm", by walk_at "nm", by walk_at "nm", ?_⟩
          · simp only [Nat.add_zero, hid]; exact hM₃
          · rw [if_pos (by omega)]; walk_at "nm"
        · have : ((k : Int) + f₀ != k) = true := by simp; omega
          rw [if_pos this]
          have hkf : k + f₀ < n := by omega
          have hRm : r.mu R := (hM₃.own R).mpr (.inl rfl)
          have hR0 : r.heap.get? R = none := hM₃.new R hRm
          have hDR : D ≠ R := by
            rintro rfl
            obtain ⟨its, ⟨o, ho, _⟩, _⟩ := hM₁.rows
            rw [hD] at ho; cases ho
          obtain ⟨its, hL, hz, hv⟩ := hM₃.rows
          refine wpAny_execs_cons (Assign_Tuple (x_tuple2 (subList ?_)))
          walk_at "ld"
          refine subList ?_
          walk_at "ld"
          refine x_int fun t z => ⟨_, _, _, _, _, rfl, rfl, hD₃, by decide, by decide, hf0, ?_⟩
          refine ⟨_, _, _, _, _, rfl, rfl, hL, by omega, by omega, by rw [show ((k : Int) + f₀).toNat = k + f₀ by omega]; exact hv _ hkf, subList ?_⟩
          walk_at "ld"
          walk_at "ld"
          refine ⟨_, _, _, _, _, rfl, rfl, hL, by omega, by omega, by rw [Int.toNat_natCast]; exact hv _ hk, fun T h₄ K₄ _ hT => ?_⟩
          refine x_assignT2 hh hT fun h₅ K₅ => x_assignSub ?_
          have F₅ := (F₃.grow K₄).grow K₅
          have K₃₅ := K₄.trans K₅
          walk_at "ld"
          walk_at "ld"
          refine wpAny_setItem_list (K₃₅.seq.list hL) (by omega) (by omega) (by omega) fun h₆ hL₆ B₆ => x_assignSub ?_
          have F₆ := F₅.appL (K₃₅.seq.list hL) B₆ hR0 hRm
          have hD₆ := list_but (K₃₅.seq.list hD₃) B₆ hDR
          walk_at "ld"
          refine subList ?_
          walk_at "ld"
          refine x_int fun t z => ⟨_, _, _, _, _, rfl, rfl, hD₆, by decide, by decide, hf0, ?_⟩
          refine wpAny_setItem_list hL₆ (by omega) (by omega) (by simp; omega) fun h₇ hL₇ B₇ => ?_
          have F₇ := F₆.appL hL₆ B₇ hR0 hRm
          -- sign = -sign
          refine wpAny_execs_cons (wpAny_Assign_Name (wpAny_UnaryOp ?_))
          walk_at "ld"
          refine x_neg fun t z => InF.st F₇ fun h₈ z F₈ S₈ _ => wpAny_execs_nil ⟨rfl, _, t, F₈, ?_, by walk_at "nm", by walk_at "nm", by walk_at "nm", ?_⟩
          · refine (hM₃.turn hk hkf hL₇ (by simpa using hz) (fun i hi => ?_) fun i hi xs hxs => ?_).keep S₈
            · simp only [Int.toNat_natCast, show ((k : Int) + f₀).toNat = k + f₀ by omega]
              unfold swapN
              by_cases h1 : i = k + f₀
              · subst h1
                rw [Array.getElem?_setIfInBounds_self_of_lt (by simp; omega), if_neg (by omega), if_pos rfl]
              · rw [Array.getElem?_setIfInBounds_ne (fun e => h1 e.symm)]
                by_cases h2 : i = k
                · subst h2
                  rw [Array.getElem?_setIfInBounds_self_of_lt (by omega), if_pos rfl]
                · rw [Array.getElem?_setIfInBounds_ne (fun e => h2 e.symm), if_neg h2, if_neg h1]; exact hv i hi
            · exact list_but (list_but (K₃₅.seq.list hxs) B₆ (hM₃.ne i hi)) B₇ (hM₃.ne i hi)
          · rw [if_neg (by omega)]; walk_at "nm"
      · rintro ⟨h₄, gs, d, k₄, os⟩ ⟨m', ts, F₄, hM₄, hR₄, hk₄, hb₄, hs₄⟩
        generalize hM' : (fun i j => M (swapN k (k + f₀) i) j) = M' at hM₄ hrun
        generalize (fun i => ra (swapN k (k + f₀) i)) = ra' at hM₄
        have hpiv : M' k k = M (k + f₀) k := by rw [← hM']; show M (swapN k (k + f₀) k) k = _; unfold swapN; rw [if_pos rfl]
        have hbd : ∀ i j, k ≤ i → i < n → k ≤ j → j < n → (M' i j).natAbs < 2 ^ 63 := fun i j h1 h2 h3 h4 => by
          rw [← hM']
          refine e5 _ _ ?_ ?_ h3 h4 <;> (unfold swapN; split <;> (try split) <;> omega)
        rw [← hpiv] at hrun
        obtain ⟨its₄, hL₄, hz₄, _⟩ := hM₄.rows
        -- for i in range(k + 1, len(rows))
        refine execs_cut (fun s' => ∃ m', InF r (callEnvC (fdAt 111) L 111) m' s'.heap s'.gens s'.drawn s'.os ∧ MatAt r.heap r.mu s'.heap R n ra' (stepM k b M') ∧
          m' (Str.ofString "rows") = some (.ref R) ∧ m' (Str.ofString "k") = some (.int k tk₀) ∧ m' (Str.ofString "sign") = some (.int (if k + f₀ = k then sg else -sg) ts)) ?_ ?_
        · refine for_loop (r := r) (J := fun a m h => MatAt r.heap r.mu h R n ra' (partM k b M' a 0) ∧
            m (Str.ofString "rows") = some (.ref R) ∧ m (Str.ofString "k") = some (.int k tk₀) ∧ m (Str.ofString "before") = some (.int b tb) ∧ m (Str.ofString "sign") = some (.int (if k + f₀ = k then sg else -sg) ts))
            (call2 (InF.built F₄ B B.range'.1 B.range'.2 ⟨.inr ⟨_, rfl⟩, wpAny_BinOp ?_⟩)) ?_
          · walk_at "ld"
            refine x_int fun t z => x_add fun t z => ?_
            refine InF.len_name F₄ B (by walk_at "nm") hL₄ hz₄ hn fun t z => ?_
            rw [show ((k : Int) + 1) = ((k + 1 : Nat) : Int) by omega]
            refine x_range2 hh (by omega) hn fun X h₅ k₅ K₅ hsrc => ?_
            have F₅ := F₄.grow K₅
            have hM₅ := hM₄.keep K₅.seq
            refine ⟨_, _, _, _, F₅, hsrc, hM₅.seq, (fun b hb => nomatch hb), ⟨hM₅.congr fun i j _ _ => (if_neg (by omega)).symm, by walk_at "nm", by walk_at "nm", by walk_at "nm", by walk_at "nm"⟩, ?_, ?_⟩
            · -- a row
              rintro a v m h gs d tk os E' ha ⟨_, ti, rfl⟩ F ⟨hM, hR, hkm, hb, hsg⟩
              obtain ⟨its, hL, hz, _⟩ := hM.rows
              refine wpAny_execs_cons (for_loop (r := r.now h) (J := fun c m h => MatAt r.heap r.mu h R n ra' (partM k b M' a c) ∧
                m (Str.ofString "rows") = some (.ref R) ∧ m (Str.ofString "k") = some (.int k tk₀) ∧ m (Str.ofString "before") = some (.int b tb) ∧ m (Str.ofString "sign") = some (.int (if k + f₀ = k then sg else -sg) ts) ∧ m (Str.ofString "i") = some (.int (((k + 1 : Nat) : Int) + a) ti))
                (call2 (InF.built F B B.range'.1 B.range'.2 ⟨.inr ⟨_, rfl⟩, wpAny_BinOp ?_⟩)) ?_)
              · walk_at "ld"
                refine x_int fun t z => x_add fun t z => ?_
                refine InF.len_name F B (by walk_at "nm") hL hz hn fun t z => ?_
                rw [show ((k : Int) + 1) = ((k + 1 : Nat) : Int) by omega]
                refine x_range2 hh (by omega) hn fun X h₅ k₅ K₅ hsrc => ?_
                have F₅ := F.grow K₅
                have hM₅ := hM.keep K₅.seq
                refine ⟨_, _, _, _, F₅, hsrc, hM₅.seq, (fun b hb => nomatch hb), ⟨hM₅, by walk_at "nm", by walk_at "nm", by walk_at "nm", by walk_at "nm", by walk_at "nm"⟩, ?_, ?_⟩
                · -- a cell
                  rintro c v m h gs d tk os E' hc ⟨_, tj, rfl⟩ F ⟨hM, hR, hkm, hb, hsg, him⟩
                  have hi : k + 1 + a < n := by omega
                  have hj : k + 1 + c < n := by omega
                  have b1 : (partM k b M' a c (k + 1 + a) (k + 1 + c)).natAbs < 2 ^ 63 := by rw [show partM k b M' a c (k + 1 + a) (k + 1 + c) = M' (k + 1 + a) (k + 1 + c) from if_neg (by omega)]; exact hbd _ _ (by omega) hi (by omega) hj
                  have b2 : (partM k b M' a c (k + 1 + a) k).natAbs < 2 ^ 63 := by rw [show partM k b M' a c (k + 1 + a) k = M' (k + 1 + a) k from if_neg (by omega)]; exact hbd _ _ (by omega) hi (by omega) hk
                  refine wpAny_execs_cons (wpAny_Assign_Subscript (wpAny_BinOp (wpAny_BinOp (wpAny_BinOp ?_))))
                  refine x_cell F hM (by walk_at "nm") (by walk_at "nm") (by walk_at "nm") (i := k + 1 + a) (j := k + 1 + c) (by omega) (by omega) hi hj hn fun t₁ => ?_
                  refine x_cell F hM (by walk_at "nm") (by walk_at "nm") (by walk_at "nm") (i := k) (j := k) (by omega) (by omega) hk hk hn fun t₂ => x_mul (mulOk_of' b1) fun t₃ z => wpAny_BinOp ?_
                  refine x_cell F hM (by walk_at "nm") (by walk_at "nm") (by walk_at "nm") (i := k + 1 + a) (j := k) (by omega) (by omega) hi hk hn fun t₁ => ?_
                  refine x_cell F hM (by walk_at "nm") (by walk_at "nm") (by walk_at "nm") (i := k) (j := k + 1 + c) (by omega) (by omega) hk hj hn fun t₂ => x_mul (mulOk_of' b2) fun t₄ z => x_sub fun t₅ z => ?_
                  walk_at "ld"
                  refine x_fdiv e6 (by omega) fun t₆ z => ?_
                  obtain ⟨its, hL, hz, hv⟩ := hM.rows
                  obtain ⟨xs, hX, hxz, _⟩ := hM.row _ hi
                  refine subList ?_
                  walk_at "ld"
                  walk_at "ld"
                  refine ⟨_, _, _, _, _, rfl, rfl, hL, by omega, by omega, by rw [show (((k + 1 : Nat) : Int) + a).toNat = k + 1 + a by omega]; exact hv _ hi, ?_⟩
                  walk_at "ld"
                  have hmu : r.mu (ra' (k + 1 + a)) := (hM.own _).mpr (.inr ⟨_, hi, rfl⟩)
                  refine wpAny_setItem_list hX (by omega) (by omega) (by omega) fun h₆ hL₆ B₆ => ?_
                  rw [show (((k + 1 : Nat) : Int) + c).toNat = k + 1 + c by omega] at hL₆
                  refine wpAny_execs_nil ⟨_, F.appL hX B₆ (hM.new _ hmu) hmu, ?_⟩
                  exact ⟨(hM.set hi hj hX hL₆ B₆).congr fun i j _ _ => partM_next i j, by walk_at "nm", by walk_at "nm", by walk_at "nm", by walk_at "nm", by walk_at "nm"⟩
                · rintro m h gs d tk os F ⟨hM, hR, hkm, hb, hsg, him⟩
                  exact wpAny_execs_nil ⟨_, F, hM.congr fun i j _ hj => partM_row hj, hR, hkm, hb, hsg⟩
              · rintro c m h h' ⟨hM, x⟩ K
                exact ⟨hM.keep K, x⟩
            · rintro m h gs d tk os F ⟨hM, hR, hkm, hb, hsg⟩
              exact ⟨rfl, _, F, hM.congr fun i j hi _ => partM_end hi, hR, hkm, hsg⟩
          · rintro c m h h' ⟨hM, x⟩ K
            exact ⟨hM.keep K, x⟩
        · rintro ⟨h₅, gs, d, k₅, os⟩ ⟨m', F₅, hM₅, hR₅, hk₅, hs₅⟩
          -- before = rows[k][k]
          refine wpAny_execs_cons (wpAny_Assign_Name ?_)
          refine x_cell F₅ hM₅ (by walk_at "nm") (by walk_at "nm") (by walk_at "nm") (i := k) (j := k) (by omega) (by omega) hk hk hn fun t₁ => ?_
          refine InF.st F₅ fun h₆ z F₆ S₆ _ => wpAny_execs_nil ?_
          refine ⟨_, F₆, stepM k b M', _, M' k k, ra', ts, t₁, hM₅.keep S₆, by walk_at "nm", by walk_at "nm", ?_, ?_, hrun⟩
          · rw [show M' k k = stepM k b M' k k from (if_neg (by omega)).symm]; walk_at "nm"
          · split <;> omega
end

end

section
local macro_rules | `(tactic| walk_at "nm") => `(tactic| first
  | (with_reducible exact up_self)
  | (with_reducible refine up_ne ?_ (by decide +kernel); walk_at "nm")
  | (with_reducible refine cMap_free ?_ (by kernel_rfl); walk_at "nm")
  | (with_reducible assumption)
  | (with_reducible exact rfl))
local macro_rules | `(tactic| walk_at "ld") => `(tactic| refine InF.ld (by assumption) (by walk_at "nm") ?_)
local macro_rules | `(tactic| walk_at "ldn") => `(tactic| refine InF.ldn (by assumption) (by walk_at "nm") ?_)
theorem Paired.at {α β : Type} {R : α → β → Prop} : ∀ {l : List α} {ys : List β}, Paired R l ys → ∀ (i : Nat) (a : α), l[i]? = some a → ∃ y, ys[i]? = some y ∧ R a y
  | _, _, .nil, i, a, h => by simp at h
  | _, _, .cons hx r, 0, a, h => by
    simp only [List.getElem?_cons_zero, Option.some.injEq] at h
    exact ⟨_, by simp, h ▸ hx⟩
  | _, _, .cons hx r, i + 1, a, h => by
    obtain ⟨y, e, f⟩ := Paired.at r i a (by simpa using h)
    exact ⟨y, by simpa using e, f⟩
theorem Paired.range {β : Type} {R : Nat → β → Prop} {n : Nat} {ys : List β} (h : Paired R ((List.range n).filter fun _ => true) ys) : ys.length = n ∧ ∀ i, i < n → ∃ y, ys[i]? = some y ∧ R i y := by
  have e : (List.range n).filter (fun _ => true) = List.range n := List.filter_eq_self.mpr fun _ _ => rfl
  rw [e] at h
  exact ⟨by rw [← h.length, List.length_range], fun i hi => Paired.at h i i (by simp [hi])⟩

section
variable {prog : Program} {w : World} {A : Around} {E : Value → Shared → Prop} {P : Params} {mg mb : Str → Option Value} {s : Shared}

theorem Base.list' {h : Heap} (B : Base P mg mb h) : mg (Str.ofString "list") = none ∧ mb (Str.ofString "list") = some (.type "list") := B.bi (by kernel_rfl) boot_list'

theorem det_spec {T : Addr} {n : Nat} {M : Nat → Nat → Int} {res : Int} {Q : Value → Shared → Prop} (B : Base P mg mb s.heap) (hh : A.handled = none) (hu : A.units + 70 < cLine) (hd : A.depth + 5 < recursionLimit)
    (hT : TabAt s.heap T n M) (hn : n ≤ 1000) (hrun : DetRun n 0 M 1 1 res) (hQ : ∀ s' t, Mv s s' → Q (.int res t) s') : wpAny (model prog w) A (call (.ref 111) [.ref T]) Q E s := by
  refine call_own (binds := [(Str.ofString "table", .ref T)]) B (by omega) B.fn111 B.cd111 (by kernel_rfl) (by kernel_rfl) (by intro _; kernel_rfl) fun L s₁ hL F => ?_
  simp only [argM] at F
  obtain ⟨h₁, gs, d, k₁, os⟩ := s₁
  have hh' : (A.deeper (callEnvC (fdAt 111) L 111)).handled = none := hh
  obtain ⟨items, hTl, hTz, hTr⟩ := hT
  have hT₁ := F.keep.seq.list hTl
  refine wpAny_execs_cons (wpAny_Assign_Name (listcomp (m := upd (fun _ => none) (Str.ofString "table") (.ref T)) (s₀ := Rf.of s s.heap fun _ => False) (InF.ld F (by walk_at "nm") ?_)))
  refine ⟨_, _, fun _ => true, fun i y h' => ∃ a its, y = .ref a ∧ h'.IsList a its ∧ its.size = n ∧ (∀ j, j < n → ∃ t, its[j]? = some (.int (M i j) t)) ∧ s.heap.get? a = none, _, True, F, list_src hh' hT₁, by omega, ?_, ?_⟩
  · intro C i v h gs d k os E' hi hPv F' hmv hC
    refine wpAny_tests_nil ⟨fun _ => ⟨rfl, ?_⟩, fun h => by cases h⟩
    obtain ⟨a, its, hit, hl, hz, hv⟩ := hTr i (by omega)
    rw [hit] at hPv; cases hPv
    refine call1 (InF.built F' B B.list'.1 B.list'.2 ⟨.inr ⟨_, rfl⟩, ?_⟩)
    walk_at "ld"
    refine x_listcopy (F'.keep.seq.list hl) (by omega) fun D h' k' K' hD hDl => ?_
    refine ⟨Mv.of K', fun _ => ⟨D, rfl, hD, let ⟨_, e⟩ := hDl; ⟨_, e⟩⟩, fun h'' hk _ => ?_⟩
    refine ⟨D, its, rfl, ?_, hz, hv, keep_fresh F'.keep hD⟩
    obtain ⟨_, e⟩ := hDl
    exact ⟨_, hk _ _ hD e, rfl, _, rfl⟩
  · intro s₂ R ys hmv hR hRl hpw hpr
    obtain ⟨h₂, gs, d, k₂, os⟩ := s₂
    have F₂ := InF.aft (t := ⟨h₁, _, _, k₁, _⟩) hmv F
    refine InF.st F₂ fun h₃ k₃ F₃ S₃ _ => ?_
    obtain ⟨hyl, hy⟩ := Paired.range hpr
    rw [hTz] at hyl hy
    have hpw := hpw trivial
    let ra : Nat → Addr := fun i => match ys[i]? with | some (.ref a) => a | _ => 0
    have hra : ∀ i, i < n → ys[i]? = some (.ref (ra i)) ∧ ∃ its, h₂.IsList (ra i) its ∧ its.size = n ∧ (∀ j, j < n → ∃ t, its[j]? = some (.int (M i j) t)) ∧ s.heap.get? (ra i) = none := fun i hi => by
      obtain ⟨y, hyi, a, its, rfl, r⟩ := hy i hi
      have e : ra i = a := by show (match ys[i]? with | some (.ref a) => a | _ => 0) = a; rw [hyi]
      rw [e]
      exact ⟨hyi, its, r⟩
    let mu : Addr → Prop := fun b => b = R ∨ ∃ i, i < n ∧ b = ra i
    have hM : MatAt s.heap mu h₃ R n ra M := by
      refine ⟨⟨_, S₃.list hRl, by simpa using hyl, fun i hi => by simpa using (hra i hi).1⟩, fun i hi => ?_, fun i j hi hj e => ?_, fun i hi e => ?_, fun b => Iff.rfl, fun b hb => ?_⟩
      · obtain ⟨_, its, a, b, c, _⟩ := hra i hi
        exact ⟨its, S₃.list a, b, c⟩
      · rcases Nat.lt_trichotomy i j with hlt | h | hlt
        · have := List.pairwise_iff_getElem.mp hpw i j (by omega) (by omega) hlt
          have h1 := (hra i hi).1; have h2 := (hra j hj).1
          rw [List.getElem?_eq_getElem (by omega)] at h1 h2
          rw [Option.some.inj h1, Option.some.inj h2, e] at this
          exact absurd rfl this
        · exact h
        · have := List.pairwise_iff_getElem.mp hpw j i (by omega) (by omega) hlt
          have h1 := (hra i hi).1; have h2 := (hra j hj).1
          rw [List.getElem?_eq_getElem (by omega)] at h1 h2
          rw [Option.some.inj h1, Option.some.inj h2, e] at this
          exact absurd rfl this
      · obtain ⟨h0, its, ⟨o, ho, _, n1, hd1⟩, b, c, _⟩ := hra i hi
        rw [e] at ho
        obtain ⟨o', ho', _, n2, hd2⟩ := hRl
        rw [ho] at ho'; cases ho'
        rw [hd1] at hd2; cases hd2
        obtain ⟨t, ht⟩ := c 0 (by omega)
        obtain ⟨y, hy0, a, _, rfl, _⟩ := hy 0 (by omega)
        simp only [List.getElem?_toArray] at ht
        rw [hy0] at ht; cases ht
      · rcases hb with rfl | ⟨i, hi, rfl⟩
        · exact keep_fresh F.keep hR
        · exact (hra i hi).2.choose_spec.2.2.2
    refine wpAny_execs_cons (wpAny_Assign_Name (x_int fun t₁ z => InF.st F₃ fun h₄ z F₄ S₄ _ => ?_))
    refine wpAny_execs_cons (wpAny_Assign_Name (x_int fun t₂ z => InF.st F₄ fun h₅ z F₅ S₅ _ => ?_))
    have hM₅ := hM.keep (S₄.trans S₅)
    have F₆ := F₅.may mu
    obtain ⟨its, hRl, hRz, _⟩ := hM₅.rows
    refine wpAny_execs_cons (for_loop (r := (Rf.of s s.heap fun _ => False).may h₅ mu) (J := fun k m h => DetJ ((Rf.of s s.heap fun _ => False).may h₅ mu) n R res k m h)
      (call1 (InF.built F₆ B B.range'.1 B.range'.2 ⟨.inr ⟨_, rfl⟩, InF.len_name F₆ B (by walk_at "nm") hRl hRz hn fun t z => x_range1 hh' hn fun X h₇ k₇ K₇ hsrc => ?_⟩)) ?_)
    · have F₇ := F₆.grow K₇
      have hM₇ := hM₅.keep K₇.seq
      refine ⟨_, _, _, _, F₇, hsrc, hM₇.seq, (fun b hb => nomatch hb), ⟨M, 1, 1, ra, t₁, t₂, hM₇, by walk_at "nm", by walk_at "nm", by walk_at "nm", by decide, hrun⟩, ?_, ?_⟩
      · rintro k v m h gs d tk os E' hk ⟨_, ti, rfl⟩ F ⟨M', sg, b, ra', tsg, tb, hM', hR', hs', hb', hs1, hrun'⟩
        rw [Int.zero_add] at F
        refine wpAny_mono (det_turn (r := ((Rf.of s s.heap fun _ => False).may h₅ mu).now h) (Qr := fun v s' => Q v s') B hh' (by show A.units + 3 + 64 < _; omega) hn hk F ⟨M', sg, b, ra', tsg, tb, hM', by walk_at "nm", by walk_at "nm", by walk_at "nm", hs1, hrun'⟩ (by walk_at "nm") fun s' t m' F' => ?_) (fun f s' hf => ?_) fun _ _ e => e
        · exact hQ s' t ⟨F'.keep, F'.gens, F'.bare, F'.os, F'.drawn⟩
        · cases f with
          | next => exact hf
          | cont => exact hf
          | brk => exact hf.elim
          | ret v => exact hf
      · rintro m h gs d tk os F ⟨M', sg, b, ra', tsg, tb, hM', hR', hs', hb', hs1, hrun'⟩
        refine wpAny_execs_cons (wpAny_Return_some (wpAny_BinOp ?_))
        walk_at "ld"
        walk_at "ld"
        refine x_mul (mulOk_of' (by omega)) fun t z => ?_
        have e : res = sg * b := by
          cases hrun' with
          | done => rfl
          | zero h => omega
          | step f h1 h2 => omega
        rw [← e]
        exact hQ _ t ⟨F.keep, F.gens, F.bare, F.os, F.drawn⟩
    · rintro k m h h' ⟨M', sg, b, ra', tsg, tb, hM', x⟩ K
      exact ⟨M', sg, b, ra', tsg, tb, hM'.keep K, x⟩
end

end

section
local macro_rules | `(tactic| walk_at "nm") => `(tactic| first
  | (with_reducible exact up_self)
  | (with_reducible refine up_ne ?_ (by decide +kernel); walk_at "nm")
  | (with_reducible refine cMap_free ?_ (by kernel_rfl); walk_at "nm")
  | (with_reducible assumption)
  | (with_reducible exact rfl))
local macro_rules | `(tactic| walk_at "ld") => `(tactic| refine InF.ld (by assumption) (by walk_at "nm") ?_)
local macro_rules | `(tactic| walk_at "ldn") => `(tactic| refine InF.ldn (by assumption) (by walk_at "nm") ?_)
section
variable {P : Params} {mg mb : Str → Option Value} {h : Heap}
theorem Base.fn64 (B : Base P mg mb h) : h.get? 64 = some (fnObj 64) := B.K _ _ (by kernel_rfl)
theorem Base.cd64 (B : Base P mg mb h) : h.CodeRec (fdAt 64).code (fdAt 64).qualname := codeRec_of B.K (by kernel_rfl)
end
theorem ne_cps {x y : Str} : (x.cps.toList != y.cps.toList) = !(x == y) := by
  rw [bne]
  congr 1
  by_cases e : x = y
  · subst e; simp
  · have h1 : x.cps.toList ≠ y.cps.toList := fun h => e (by obtain ⟨a⟩ := x; obtain ⟨b⟩ := y; exact congrArg Str.mk (Array.toList_inj.mp h))
    rw [beq_eq_false_iff_ne.mpr h1, beq_eq_false_iff_ne.mpr e]
def uriB (a p : Str) : Bool := a == p || Txt.startswith p (if Txt.slice a (some (-1)) none == SL then a else a ++ SL)
section
variable {prog : Program} {w : World} {A : Around} {E : Value → Shared → Prop} {P : Params} {mg mb : Str → Option Value} {s : Shared}

/-- a field of a tuple held by a name -/
theorem x_titem {Q : Value → Shared → Prop} {r : Rf} {env : Env} {m : Str → Option Value} {h : Heap} {gs : Array GenState} {d : Drawn} {k : Nat} {os : OsState} {x : Str} {T : Addr} {items : Array Value} {i : Int} {j : Nat} {v : Value} {kd : Nat} {p₁ p₂ p₃ : Pos}
    (F : InF r env m h gs d os) (hv : m x = some (.ref T)) (hT : h.IsTuple T items) (hlo : -(2 ^ 63) ≤ i) (hhi : i < 2 ^ 63) (hj : seqIndex? i items.size = some j) (hx : items[j]? = some v) (hq : ∀ k', Q v ⟨h, gs, d, k', os⟩) (hc : canRead env x = true := by kernel_rfl) :
    wpAny (model prog w) A (eval (.Subscript (.Name x p₁) (.Constant (.int i) kd p₂) p₃) env) Q E ⟨h, gs, d, k, os⟩ := by
  refine sub (InF.ld F hv ?_ hc)
  refine x_int fun t z => ⟨"tuple", _, hT.typeIs, PySem.F.slot_tuple_getitem.lookup, ?_⟩
  exact getItem_tuple hT hlo hhi hj hx (hq _)

theorem uri_spec {self : Value} {b tt : Addr} {H a p : Str} {t₁ t₂ t₃ t₄ : Tok} {Q : Value → Shared → Prop} (B : Base P mg mb s.heap) (hh : A.handled = none) (hd : A.depth + 5 < recursionLimit) (hu : A.units + 70 < cLine)
    (hb : s.heap.IsTuple b #[.str H t₁, .str a t₂]) (ht : s.heap.IsTuple tt #[.str H t₃, .str p t₄]) (ha : a.length ≤ 500) (oH : PyData.strOk H = true) (oa : PyData.strOk a = true) (op : PyData.strOk p = true)
    (hQ : ∀ s', Mv s s' → Q (.bool (uriB a p)) s') : wpAny (model prog w) A (call (.ref 64) [self, .ref b, .ref tt]) Q E s := by
  refine call_own (binds := [(Str.ofString "self", self), (Str.ofString "base", .ref b), (Str.ofString "test", .ref tt)]) B (by omega) B.fn64 B.cd64 (by kernel_rfl) (by kernel_rfl) (by intro _; kernel_rfl) fun L s₁ hL F => ?_
  simp only [argM] at F
  obtain ⟨h₁, gs, d, k₁, os⟩ := s₁
  have hb₁ := F.keep.seq.tuple hb
  have ht₁ := F.keep.seq.tuple ht
  refine wpAny_execs_cons (wpAny_If (wpAny_isTrue_Compare1 ?_))
  walk_at "ld"
  walk_at "ld"
  have sh : ∀ {x : Str}, PyData.strOk x = true → PySem.SeqAt.shaped (.tuple [.str H, .str x]) = true := fun hx => by
    unfold PySem.SeqAt.shaped
    rw [Bool.and_eq_true]
    refine ⟨?_, by simp [PyData.depth, PyData.depthAll]⟩
    simp [PyData.canLay0, PyData.canLayAll0, oH, hx]
  have rd : ∀ {T : Addr} {x : Str} {u v : Tok}, h₁.IsTuple T #[.str H u, .str x v] → Reads h₁ (.ref T) (.tuple [.str H, .str x]) ([] ++ ([] ++ [])) := fun hT => let ⟨o, ho, hc, n, hd⟩ := hT; .tuple ho hc hd (.cons (.str _ _) (.cons (.str _ _) .nil))
  refine eq_dataH (rd hb₁) (rd ht₁) (sh oa) (sh op) (by show A.units + 3 + 64 < _; omega) (wpAny_truthy_bool ?_)
  have e : PyData.eqv (.tuple [.str H, .str a]) (.tuple [.str H, .str p]) = (a == p) := by simp [PyData.eqv, PyData.eqvAll]
  rw [e]
  cases hap : (a == p) with
  | true =>
    simp only [if_true]
    refine wpAny_execs_cons (wpAny_Return_some (Constant_bool ?_))
    have : uriB a p = true := by unfold uriB; rw [hap]; rfl
    rw [← this]
    exact hQ _ (F.mvo (s := ⟨_, _, _, _, _⟩))
  | false =>
    simp only [Bool.false_eq_true, if_false]
    have eu : uriB a p = Txt.startswith p (if Txt.slice a (some (-1)) none == SL then a else a ++ SL) := by unfold uriB; rw [hap]; rfl
    refine wpAny_execs_nil (wpAny_execs_cons (wpAny_If (wpAny_isTrue_Compare1 ?_)))
    refine x_titem F (by walk_at "nm") hb₁ (by decide) (by decide) (j := 0) (by rfl) rfl fun k => ?_
    refine x_titem F (by walk_at "nm") ht₁ (by decide) (by decide) (j := 0) (by rfl) rfl fun k => ?_
    refine PySem.P.ne_str (wpAny_truthy_bool ?_)
    rw [if_neg (by simp)]
    refine wpAny_execs_nil (wpAny_execs_cons (wpAny_Assign_Name ?_))
    refine x_titem F (by walk_at "nm") hb₁ (by decide) (by decide) (j := 1) (v := .str a t₂) (by rfl) rfl fun k => ?_
    refine InF.st F fun h₂ k F₂ S₂ _ => ?_
    have ht₂ := S₂.tuple ht₁
    have hl : a.length ≤ sizeLine := sizeLine_1000 (by omega)
    refine wpAny_execs_cons (wpAny_If (wpAny_isTrue_Compare1 (x_subSlice ?_)))
    walk_at "ld"
    refine evalPart_some_step (wpAny_UnaryOp (x_int fun t k => x_neg fun t k => evalPart_none_step ?_))
    refine ⟨_, _, some (_, _), none, rfl, rfl, rfl, hl, fun t₁ k h₃ K₃ => x_str fun t k => PySem.P.ne_str (wpAny_truthy_bool ?_)⟩
    rw [ne_cps]
    have F₃ := F₂.grow K₃
    have ht₃ := K₃.seq.tuple ht₂
    have fin : ∀ (v : Str) (u : Tok) (m : Str → Option Value) (h : Heap) (k : Nat), InF (Rf.of s s.heap fun _ => False) (callEnvC (fdAt 64) L 64) m h gs d os → h.IsTuple tt #[.str H t₃, .str p t₄] → m (Str.ofString "test") = some (.ref tt) → m (Str.ofString "prefix") = some (.str v u) →
        v = (if Txt.slice a (some (-1)) none == SL then a else a ++ SL) →
        wpAny (model prog w) (A.deeper (callEnvC (fdAt 64) L 64)) (execs ((bodyAt 64).drop 4) (callEnvC (fdAt 64) L 64)) (fun f s' => Q (match f with | .ret v => v | _ => .none) s') (fun _ _ => False) ⟨h, gs, d, k, os⟩ := by
      intro v u m h k F ht hm₁ hm₂ hv
      subst hv
      refine wpAny_execs_cons (wpAny_Return_some (Call_method1 (by rfl) (by rfl) (by decide) ?_))
      refine x_titem F (by walk_at "nm") ht (by decide) (by decide) (j := 1) (by rfl) rfl fun k => ?_
      refine SB.startswith ?_
      walk_at "ld"
      refine ⟨_, _, rfl, ?_⟩
      rw [← eu]
      exact hQ _ (F.mvo (s := ⟨_, _, _, _, _⟩))
    split
    · rename_i hne
      refine wpAny_execs_cons (wpAny_AugAssign_Name ?_)
      walk_at "ldn"
      refine x_str fun t k => x_iadds (sizeLine_1000 (by rw [str_append_length]; have : (Str.ofString "/").length = 1 := by decide +kernel
                                                         omega)) fun t k => ?_
      refine InF.st F₃ fun h₄ k F₄ S₄ _ => wpAny_execs_nil ?_
      refine fin _ _ _ _ _ F₄ (S₄.tuple ht₃) (by walk_at "nm") (by walk_at "nm") ?_
      rw [if_neg]
      · rfl
      · intro h
        have h' : (Txt.slice a (some (-1)) none == Str.ofString "/") = true := h
        change (!(Txt.slice a (some (-1)) none == Str.ofString "/")) = true at hne
        rw [h'] at hne; cases hne
    · rename_i hne
      refine wpAny_execs_nil (fin a _ _ _ _ F₃ ht₃ (by walk_at "nm") (by walk_at "nm") ?_)
      rw [if_pos]
      change ¬ (!(Txt.slice a (some (-1)) none == Str.ofString "/")) = true at hne
      have h' : (Txt.slice a (some (-1)) none == Str.ofString "/") = true := by simpa using hne
      exact h'
end

end

section
local macro_rules | `(tactic| walk_at "nm") => `(tactic| first
  | (with_reducible exact up_self)
  | (with_reducible refine up_ne ?_ (by decide +kernel); walk_at "nm")
  | (with_reducible refine cMap_free ?_ (by kernel_rfl); walk_at "nm")
  | (with_reducible assumption)
  | (with_reducible exact rfl))
local macro_rules | `(tactic| walk_at "ld") => `(tactic| refine InF.ld (by assumption) (by walk_at "nm") ?_)
local macro_rules | `(tactic| walk_at "ldn") => `(tactic| refine InF.ldn (by assumption) (by walk_at "nm") ?_)
section
variable {P : Params} {mg mb : Str → Option Value} {h : Heap}
theorem Base.fn35 (B : Base P mg mb h) : h.get? 35 = some (fnObj 35) := B.K _ _ (by kernel_rfl)
theorem Base.cd35 (B : Base P mg mb h) : h.CodeRec (fdAt 35).code (fdAt 35).qualname := codeRec_of B.K (by kernel_rfl)
end
/-- a manager stands at x -/
def ManAt (h : Heap) (x : Addr) : Prop := ∃ dx od, h.get? x = some (instObj 67 dx) ∧ h.get? dx = some od ∧ lookIn (Str.ofString "is_suburi") od = some none
theorem ManAt.keeps {h h' : Heap} {x : Addr} (I : ManAt h x) (k : KeepAll h h') : ManAt h' x := let ⟨dx, od, a, b, c⟩ := I; ⟨dx, od, k _ _ a, k _ _ b, c⟩
section
variable {prog : Program} {w : World} {A : Around} {E : Value → Shared → Prop} {P : Params} {mg mb : Str → Option Value} {s : Shared}

theorem call_ownC {a : Addr} {vals : List Value} {binds : List (Str × Value)} {R : Result → Shared → Prop} (B : Base P mg mb s.heap) (hroom : A.depth < recursionLimit)
    (ho : s.heap.get? a = some (fnObj a)) (hcd : s.heap.CodeRec (fdAt a).code (fdAt a).qualname)
    (hbody : (fdAt a).body = .stmts (bodyAt a)) (hbind : bindArgs (fdAt a) ⟨vals, []⟩ = pure binds)
    (hkind₀ : ∀ L, (binds.all fun x => (fdAt a).scope.names.lookup x.1 == some .local || ((fdAt a).scope.names.lookup x.1 == some .cell && ((cellsFrom (L + 1) (fdAt a).scope.names []).lookup x.1).isSome)) = true)
    (h : ∀ L s₁, L = s.heap.objs.size → InF (.of s s.heap fun _ => False) (callEnvC (fdAt a) L a) (argM binds fun _ => none) s₁.heap s₁.gens s₁.drawn s₁.os → 
      wpAny (model prog w) (A.deeper (callEnvC (fdAt a) L a)) (execs (bodyAt a) (callEnvC (fdAt a) L a)) (fun f s' => R (.ok (.ret (match f with | .ret v => v | _ => .none))) s') (fun _ _ => False) s₁)
    (hclo : (fdAt a).closure = [] := by kernel_rfl)
    (hcells : ∀ L, ((callEnvC (fdAt a) L a).cells.all fun x => (callEnvC (fdAt a) L a).kindOf x.1 != some .local) = true := by intro _; kernel_rfl)
    (hco : (fdAt a).scope.isCoroutine = false := by kernel_rfl) (hgen : (fdAt a).scope.isGenerator = false := by kernel_rfl) (hk : (fdAt a).scope.kind = .function := by kernel_rfl) :
    codeAny (model prog w) A (.call (.ref a) ⟨vals, []⟩) R s := by
  have hkind : ∀ x ∈ binds, (fdAt a).scope.names.lookup x.1 = some .local ∨ ((fdAt a).scope.names.lookup x.1 = some .cell ∧ ((cellsFrom (s.heap.objs.size + 1) (fdAt a).scope.names []).lookup x.1).isSome = true) := fun x hx => by
    have := List.all_eq_true.mp (hkind₀ s.heap.objs.size) x hx
    simpa using this
  refine codeAny_call_cells hroom ho rfl B.nolimit hcd hbody hbind hclo hkind (fun s₁ x => ?_) hco hgen hk
  have hC := List.all_eq_true.mp (hcells s.heap.objs.size)
  obtain ⟨h₁, tk, e⟩ := x.toInCall.same
  have fr : ∀ b, s.heap.objs.size ≤ b → s.heap.get? b = none := fun b hb => by
    cases e : s.heap.get? b with
    | none => rfl
    | some o => exact absurd (Heap.lt_size e) (Nat.not_lt.mpr hb)
  refine wpAny_mono (h _ s₁ rfl ⟨⟨_, x.toInCall.ns, fun n hl => bindL_arg hl rfl⟩, fun n c hc => ?_, x.apart, ⟨fr _ (Nat.le_refl _), fun y hy => fr _ (Nat.le_of_lt (x.above y.1 y.2 hy))⟩, x.toInCall.keep, ?_, ?_, ?_, ?_, fun b o _ _ e => x.toInCall.keep b o e⟩) (fun f s' q => q) (fun _ _ q => q.elim)
  · have hnl : (callEnvC (fdAt a) s.heap.objs.size a).kindOf n ≠ some .local := by simpa using hC _ (mem_of_lookup hc)
    rw [← bindC_arg (binds := binds) (ma := fun _ => none) hnl rfl]
    exact x.cell n c hc
  · subst e; exact fun _ _ q => q
  · subst e; exact id
  · subst e; rfl
  · subst e; rfl

/-- HTTPPasswordMgr() -/
theorem man_spec {Q : Value → Shared → Prop} (B : Base P mg mb s.heap) (hd : A.depth + 5 < recursionLimit) (hQ : ∀ s' x, Mv s s' → ManAt s'.heap x → Q (.ref x) s') : wpAny (model prog w) A (call (.ref 67) []) Q E s := by
  obtain ⟨h₀, gs, d, tk, os⟩ := s
  have hm : makesIn (Mine.hd.heap_39 P) 67 = true := by kernel_rfl
  refine wpAny_call (make_core (makes_of B.K hm) (looks_findIn B.K (show findIn (Mine.hd.heap_39 P) (.ref 67) "__init__" = some (some (.ref 35)) by kernel_rfl)) (fun self => bind_fn B.K self (by kernel_rfl)) (.inl rfl) ?_)
  have k₁ : KeepAll h₀ ((h₀.push emptyDict).push (instObj 67 h₀.objs.size)) := fun b o e => Heap.get?_push_of_some _ (Heap.get?_push_of_some _ e)
  have B₁ := B.keeps k₁
  have hx : ((h₀.push emptyDict).push (instObj 67 h₀.objs.size)).get? (h₀.objs.size + 1) = some (instObj 67 h₀.objs.size) := by
    have := Heap.get?_push_size (h₀.push emptyDict) (o := instObj 67 h₀.objs.size) rfl
    rwa [Heap.size_push] at this
  have hdx : ((h₀.push emptyDict).push (instObj 67 h₀.objs.size)).get? h₀.objs.size = some emptyDict := Heap.get?_push_of_some _ (Heap.get?_push_size h₀ rfl)
  have hsz : ((h₀.push emptyDict).push (instObj 67 h₀.objs.size)).objs.size = h₀.objs.size + 1 + 1 := by rw [Heap.size_push, Heap.size_push]
  generalize hx₀ : h₀.objs.size + 1 = x at *
  generalize hd₀ : h₀.objs.size = dx at *
  generalize (h₀.push emptyDict).push (instObj 67 dx) = h₁ at *
  refine call_ownC (s := ⟨h₁, gs, d, tk, os⟩) (binds := [(Str.ofString "self", .ref x)]) B₁ (by show A.depth + 1 < _; omega) B₁.fn35 B₁.cd35 (by kernel_rfl) (by kernel_rfl) (by intro _; kernel_rfl) fun L s₁ hL F => ?_
  simp only [argM] at F
  obtain ⟨h₂, gs₂, d₂, tk₂, os₂⟩ := s₁
  refine wpAny_execs_cons (plainObj_wpAny_Assign_Attribute (wpAny_Dict_empty ?_))
  have F₁ := F.grow (KeepAll.push h₂ { cls := .type "dict", data := .dict #[] })
  refine InF.ld (s := ⟨_, _, _, _, _⟩) F₁ (by walk_at "nm") ?_
  generalize hh₃ : h₂.push { cls := .type "dict", data := .dict #[] } = h₃ at *
  have K₃ : KeepAll h₁ h₃ := F₁.keep
  have X₃ : (Mine.hd.heap_39 P).In h₃ := B₁.K.keeps K₃
  have I : W.InstAt h₃ x (instObj 67 dx) 67 (some emptyDict) := ⟨K₃ _ _ hx, rfl, rfl, K₃ _ _ hdx⟩
  obtain ⟨ml, hml, _⟩ := F₁.ns
  have hLx : x ≠ L := by rw [hL]; show x ≠ h₁.objs.size; rw [hsz]; exact Nat.ne_of_lt (Nat.lt_succ_self _)
  have hLd : dx ≠ L := by rw [hL]; show dx ≠ h₁.objs.size; rw [hsz, ← hx₀]; exact Nat.ne_of_lt (Nat.lt_of_lt_of_le (Nat.lt_succ_self _) (Nat.le_succ _))
  have fr : ∀ b, dx ≤ b → h₀.get? b = none := fun b hb => by
    cases e : h₀.get? b with
    | none => rfl
    | some o => exact absurd (Heap.lt_size e) (by rw [hd₀]; exact Nat.not_lt.mpr hb)
  have Fr₀ : Fr h₀ L h₃ ml := ⟨hml, fun b o e => K₃ _ _ (k₁ _ _ e), by rw [hd₀, hL]; show dx ≤ h₁.objs.size; rw [hsz, ← hx₀]; exact Nat.le_trans (Nat.le_succ _) (Nat.le_succ _)⟩
  have N₀ : News h₀ L h₃ ([(x, instObj 67 dx)] ++ (dx, emptyDict) :: []) := fun p hp => by
    simp only [List.cons_append, List.nil_append, List.mem_cons, List.not_mem_nil, or_false] at hp
    rcases hp with rfl | rfl
    · exact ⟨K₃ _ _ hx, hLx, fr x (by rw [← hx₀]; exact Nat.le_succ _)⟩
    · exact ⟨K₃ _ _ hdx, hLd, fr dx (Nat.le_refl _)⟩
  refine set_plain (s := ⟨h₃, gs₂, d₂, tk₂, os₂⟩) X₃ I (by kernel_rfl) ?_
  refine osa_dict (s := ⟨h₃, gs₂, d₂, tk₂ + 1, os₂⟩) (dx := dx) (pre := [(x, instObj 67 dx)]) (post := []) (es := _) (n := _) (od' := _) Fr₀ N₀ X₃ I rfl (by kernel_rfl) (by kernel_rfl) (by kernel_rfl) (by kernel_rfl) ?_ (fun _ h => nomatch h) rfl rfl ?_ ?_
  · intro p hp
    rw [List.mem_singleton.mp hp, ← hx₀]
    exact Nat.succ_ne_self dx
  · exact Nat.le_of_ble_eq_true rfl
  · intro h' F' N'
    refine wpAny_execs_nil ⟨rfl, ?_⟩
    refine hQ _ x ⟨F'.keep, F.gens, F.bare, F.os, F.drawn⟩ ?_
    have n1 := (N' (x, instObj 67 dx) (by simp)).1
    have n2 := (N' (dx, _) (List.mem_append_right _ List.mem_cons_self)).1
    exact ⟨dx, _, n1, n2, by rfl⟩
end

end

section
local macro_rules | `(tactic| walk_at "nm") => `(tactic| first
  | (with_reducible exact up_self)
  | (with_reducible refine up_ne ?_ (by decide +kernel); walk_at "nm")
  | (with_reducible refine cMap_free ?_ (by kernel_rfl); walk_at "nm")
  | (with_reducible assumption)
  | (with_reducible exact rfl))
local macro_rules | `(tactic| walk_at "ld") => `(tactic| refine InF.ld (by assumption) (by walk_at "nm") ?_)
local macro_rules | `(tactic| walk_at "ldn") => `(tactic| refine InF.ldn (by assumption) (by walk_at "nm") ?_)
section
variable {prog : Program} {w : World} {A : Around} {E : Value → Shared → Prop} {env : Env} {P : Params} {mg mb : Str → Option Value} {s : Shared}

/-- o.is_suburi(e₁, e₂) for a manager o -/
theorem callM2 {o e₁ e₂ : Expr} {apos pos : Pos} {Q : Value → Shared → Prop}
    (h : wpAny (model prog w) A (eval o env) (fun ov s₁ => ∃ x, ov = .ref x ∧ ManAt s₁.heap x ∧ (Mine.hd.heap_39 P).In s₁.heap ∧ wpAny (model prog w) A (eval e₁ env) (fun v s₂ => wpAny (model prog w) A (eval e₂ env) (fun u s₃ =>
      s₃.heap.get? 64 = some (fnObj 64) ∧ wpAny (model prog w) A (call (.ref 64) [.ref x, v, u]) Q E s₃) E s₂) E s₁) E s)
    (hbase : attributeBase o "is_suburi" env (eval o env) = eval o env := by rfl) (hs : starEach [e₁, e₂] env = [(false, eval e₁ env), (false, eval e₂ env)] := by rfl) (hline : (apos.endLine == pos.line) = true := by decide) :
    wpAny (model prog w) A (eval (.Call (.Attribute o "is_suburi" apos) [e₁, e₂] [] pos) env) Q E s := by
  rw [arm_eval_Call, hbase]
  refine wpAny_bind (wpAny_mono h (fun ov s₁ h₁ => ?_) fun _ _ e => e)
  obtain ⟨x, rfl, ⟨dx, od, hx, hdx, hl⟩, X, h₁⟩ := h₁
  refine wpAny_bind (wpAny_standAt ?_)
  have I : W.InstAt s₁.heap x (instObj 67 dx) 67 (some od) := ⟨hx, rfl, rfl, hdx⟩
  have hbt : backTo pos (starEach [e₁, e₂] env) = [(false, eval e₁ env), (false, eval e₂ env)] := by rw [hs]; rfl
  have hform : methodCallForm ([e₁, e₂].length + ([] : List Keyword).length) (backTo pos (starEach [e₁, e₂] env)) (backToKw pos (keywordEach [] env)) = true := by rw [hbt]; rfl
  have hpos : methodCallPos true o env apos pos = pure pos := by unfold methodCallPos; simp [hline]
  unfold methodCall
  rw [hform]
  have hcal : ∀ ov name, calleeOf true o env ov name = getMethod ov name (do return (← importBound o env).getD true) := fun _ _ => rfl
  rw [hcal]
  refine wpAny_bind (wpAny_holding (method_fn (f := 64) X I (by kernel_rfl) (by kernel_rfl) (by kernel_rfl) (by kernel_rfl) ?_ ?_))
  · show (lookIn (Str.ofString "is_suburi") od).map _ = _
    rw [hl]; rfl
  · refine wpAny_bind (wpAny_of_eq hpos ?_)
    exact cwF2 (o := fnObj 64) (fd := fdAt 64) (wpAny_mono h₁ (fun v s₂ h₂ => wpAny_mono h₂ (fun u s₃ h₃ => ⟨⟨h₃.1, rfl⟩, h₃.2⟩) fun _ _ e => e) fun _ _ e => e) hbt

/-- a class called with nothing -/
theorem callC0 {x : Str} {p pos : Pos} {Q : Value → Shared → Prop} (h : wpAny (model prog w) A (eval (.Name x p) env) (fun f s₁ => f = .ref 67 ∧ (Mine.hd.heap_39 P).In s₁.heap ∧ wpAny (model prog w) A (call (.ref 67) []) Q E s₁) E s) :
    wpAny (model prog w) A (eval (.Call (.Name x p) [] [] pos) env) Q E s := by
  refine wpAny_Call_NameR (wpAny_mono h (fun f s₁ h₁ => ?_) fun _ _ e => e)
  obtain ⟨rfl, X, h₁⟩ := h₁
  exact callWith_K0 (K := Mine.hd.heap_39 P) X (by kernel_rfl) h₁
end

end

section
local macro_rules | `(tactic| walk_at "nm") => `(tactic| first
  | (with_reducible exact up_self)
  | (with_reducible refine up_ne ?_ (by decide +kernel); walk_at "nm")
  | (with_reducible refine cMap_free ?_ (by kernel_rfl); walk_at "nm")
  | (with_reducible assumption)
  | (with_reducible exact rfl))
local macro_rules | `(tactic| walk_at "ld") => `(tactic| refine InF.ld (by assumption) (by walk_at "nm") ?_)
local macro_rules | `(tactic| walk_at "ldn") => `(tactic| refine InF.ldn (by assumption) (by walk_at "nm") ?_)
/-- the law's plain data: chains, heights and the two tables -/
def pathAt (ps : List Str) (k : Nat) : Str := ps.getD k Str.empty
def worthAt (ws : List Int) (k : Nat) : Int := ws.getD k 0
def hgt (ws : List Int) (ch : Nat → List Nat) (i : Nat) : Int := ((ch i).map fun k => worthAt ws k).sum
def firstOf (ch : Nat → List Nat) (i j : Nat) : Nat := ((ch i).filter fun k => decide (k ∈ ch j)).headD 0
def shr (ws : List Int) (ch : Nat → List Nat) (i j : Nat) : Int := hgt ws ch (firstOf ch i j)
def apt (ws : List Int) (ch : Nat → List Nat) (n : Nat) (i j : Nat) : Int := (((List.range n).filter fun k => decide (k ∈ ch i) != decide (k ∈ ch j)).map fun k => worthAt ws k).sum
def prodOf (ws : List Int) : Int := (ws.drop 1).foldl (· * ·) 1
def sgnOf (n : Nat) : Int := if n % 2 = 0 then -1 else 1

structure LawOk (ps : List Str) (ws : List Int) (ch : Nat → List Nat) (n : Nat) : Prop where
  plen : ps.length = n
  wlen : ws.length = n
  two : 2 ≤ n
  max : n ≤ 8
  txt : ∀ k, k < n → (pathAt ps k).length ≤ 500 ∧ PyData.strOk (pathAt ps k) = true
  nodup : ∀ i j, i < n → j < n → pathAt ps i = pathAt ps j → i = j
  anc : ∀ i, i < n → AncOk (fun j => ((ch i).map (pathAt ps)).getD j SL) (ch i).length (pathAt ps i)
  chlt : ∀ i, i < n → ∀ k ∈ ch i, k < n
  chlen : ∀ i, i < n → (ch i).length ≤ 1000
  cov : ∀ k i, k < n → i < n → uriB (pathAt ps k) (pathAt ps i) = decide (k ∈ ch i)
  top : ∀ i j, i < n → j < n → (ch i).filter (fun k => decide (k ∈ ch j)) ≠ []
  eq : ∀ i j, i < n → j < n → apt ws ch n i j = hgt ws ch i + hgt ws ch j - 2 * shr ws ch i j
  wsmall : ∀ k, k < n → (worthAt ws k).natAbs ≤ 9
  det1 : DetRun n 0 (shr ws ch) 1 1 (worthAt ws 0 * prodOf ws)
  det2 : DetRun n 0 (apt ws ch n) 1 1 (sgnOf n * 2 ^ (n - 2) * prodOf ws * (ws.drop 1).sum)

structure LawH (ps : List Str) (ws : List Int) (ch : Nat → List Nat) (n : Nat) (h : Heap) (p q W H V : Addr) : Prop where
  paths : ∃ vs : List Value, h.PlainList p vs.toArray ∧ StrsAre vs ps
  worths : ∃ vs : List Value, h.PlainList q vs.toArray ∧ IntsAre vs ws
  ways : ∃ items : Array Value, h.IsList W items ∧ items.size = n ∧ ∀ i, i < n → ∃ a, ∃ vs : List Value, items[i]? = some (.ref a) ∧ h.IsList a vs.toArray ∧ StrsAre vs ((ch i).map (pathAt ps))
  heights : ∃ vs : List Value, h.IsList H vs.toArray ∧ IntsAre vs ((List.range n).map (hgt ws ch))
  covers : ∃ items : Array Value, h.IsList V items ∧ items.size = n ∧ ∀ k, k < n → ∃ a its, items[k]? = some (.ref a) ∧ h.IsList a its ∧ its.size = n ∧ ∀ i, i < n → its[i]? = some (.bool (decide (k ∈ ch i)))
theorem LawH.keep {ps : List Str} {ws : List Int} {ch : Nat → List Nat} {n : Nat} {h h' : Heap} {p q W H V : Addr} (x : LawH ps ws ch n h p q W H V) (k : SeqK h h') : LawH ps ws ch n h' p q W H V :=
  ⟨let ⟨vs, a, b⟩ := x.paths; ⟨vs, k.plain a, b⟩, let ⟨vs, a, b⟩ := x.worths; ⟨vs, k.plain a, b⟩,
   let ⟨its, a, b, c⟩ := x.ways; ⟨its, k.list a, b, fun i hi => let ⟨a, vs, d, e, f⟩ := c i hi; ⟨a, vs, d, k.list e, f⟩⟩,
   let ⟨vs, a, b⟩ := x.heights; ⟨vs, k.list a, b⟩,
   let ⟨its, a, b, c⟩ := x.covers; ⟨its, k.list a, b, fun i hi => let ⟨a, vs, d, e, f⟩ := c i hi; ⟨a, vs, d, k.list e, f⟩⟩⟩

/-- a table that grows -/
def AppTab (h : Heap) (mu : Addr → Prop) (T : Addr) (i n : Nat) (M : Nat → Nat → Int) : Prop :=
  ∃ items : Array Value, h.PlainList T items ∧ items.size = i ∧ ∀ i', i' < i → ∃ a its, items[i']? = some (.ref a) ∧ ¬ mu a ∧ h.IsList a its ∧ its.size = n ∧ ∀ j, j < n → ∃ t, its[j]? = some (.int (M i' j) t)
theorem AppTab.keep {h h' : Heap} {mu : Addr → Prop} {T : Addr} {i n : Nat} {M : Nat → Nat → Int} (x : AppTab h mu T i n M) (k : SeqK h h') : AppTab h' mu T i n M :=
  let ⟨its, a, b, c⟩ := x; ⟨its, k.plain a, b, fun i hi => let ⟨a, vs, d, nm, e, f⟩ := c i hi; ⟨a, vs, d, nm, k.list e, f⟩⟩
/-- another table has grown -/
theorem AppTab.but {h h' : Heap} {mu : Addr → Prop} {T U : Addr} {i n : Nat} {M : Nat → Nat → Int} (x : AppTab h mu T i n M) (hs : Heap.SameBut U h h') (hne : U ≠ T) (hU : mu U) : AppTab h' mu T i n M :=
  let ⟨its, a, b, c⟩ := x; ⟨its, plain_but a hs hne, b, fun i hi => let ⟨a, vs, d, nm, e, f⟩ := c i hi; ⟨a, vs, d, nm, list_but e hs (fun e => nm (e ▸ hU)), f⟩⟩
theorem AppTab.grow {h h' : Heap} {mu : Addr → Prop} {T : Addr} {i n : Nat} {M : Nat → Nat → Int} {items its : Array Value} {a : Addr} (hold : h.PlainList T items) (hz : items.size = i)
    (hc : ∀ i', i' < i → ∃ a its, items[i']? = some (.ref a) ∧ ¬ mu a ∧ h.IsList a its ∧ its.size = n ∧ ∀ j, j < n → ∃ t, its[j]? = some (.int (M i' j) t)) (hl : h'.PlainList T (items.push (.ref a))) (hs : Heap.SameBut T h h') (hT : mu T)
    (ha : ¬ mu a) (hal : h.IsList a its) (hiz : its.size = n) (hv : ∀ j, j < n → ∃ t, its[j]? = some (.int (M i j) t)) : AppTab h' mu T (i + 1) n M := by
  refine ⟨_, hl, by simp [hz], fun i' hi' => ?_⟩
  have go : ∀ b xs, ¬ mu b → h.IsList b xs → h'.IsList b xs := fun b xs hb hx => list_but hx hs (fun e => hb (e ▸ hT))
  by_cases e : i' = i
  · subst e
    exact ⟨a, its, by rw [← hz]; simp, ha, go _ _ ha hal, hiz, hv⟩
  · obtain ⟨b, xs, e1, e2, e3, e4⟩ := hc i' (by omega)
    refine ⟨b, xs, ?_, e2, go _ _ e2 e3, e4⟩
    rw [Array.getElem?_push]; rw [if_neg (by omega)]; exact e1
theorem AppTab.tab {h : Heap} {mu : Addr → Prop} {T : Addr} {n : Nat} {M : Nat → Nat → Int} (x : AppTab h mu T n n M) : TabAt h T n M :=
  let ⟨its, a, b, c⟩ := x; ⟨its, a.isList, b, fun i hi => let ⟨a, vs, d, _, e⟩ := c i hi; ⟨a, vs, d, e⟩⟩

theorem pathAt_get {ps : List Str} {n : Nat} (hl : ps.length = n) {k : Nat} (hk : k < n) : ps[k]? = some (pathAt ps k) := by
  unfold pathAt; rw [List.getD_eq_getElem?_getD, List.getElem?_eq_getElem (by omega)]; rfl
theorem worthAt_get {ws : List Int} {n : Nat} (hl : ws.length = n) {k : Nat} (hk : k < n) : ws[k]? = some (worthAt ws k) := by
  unfold worthAt; rw [List.getD_eq_getElem?_getD, List.getElem?_eq_getElem (by omega)]; rfl
theorem Paired.ints {α : Type} {f : α → Int} : ∀ {l : List α} {ys : List Value}, Paired (fun a y => ∃ t, y = .int (f a) t) l ys → IntsAre ys (l.map f)
  | _, _, .nil => .nil
  | _, _, .cons hx r => by obtain ⟨t, rfl⟩ := hx; exact .cons _ _ (Paired.ints r)
theorem Paired.strs {α : Type} {f : α → Str} : ∀ {l : List α} {ys : List Value}, Paired (fun a y => ∃ t, y = .str (f a) t) l ys → StrsAre ys (l.map f)
  | _, _, .nil => .nil
  | _, _, .cons hx r => by obtain ⟨t, rfl⟩ := hx; exact .cons _ _ (Paired.strs r)
theorem strs_of : ∀ {vs : List Value} {l : List Str}, vs.length = l.length → (∀ (j : Nat) (v : Value), vs[j]? = some v → ∃ t, v = .str (l.getD j Str.empty) t) → StrsAre vs l
  | [], [], _, _ => .nil
  | v :: vs, x :: l, hl, h => by
    obtain ⟨t, rfl⟩ := h 0 v rfl
    exact .cons _ _ (strs_of (by simpa using hl) fun j v hj => by simpa using h (j + 1) v (by simpa using hj))
theorem Base.sum' {P : Params} {mg mb : Str → Option Value} {h : Heap} (B : Base P mg mb h) : mg (Str.ofString "sum") = none ∧ mb (Str.ofString "sum") = some (.builtin "sum") := B.bi (by kernel_rfl) boot_sum'

section
variable {prog : Program} {w : World} {A : Around} {E : Value → Shared → Prop} {env : Env} {pos : Pos} {Q : Value → Shared → Prop} {r : Rf} {m : Str → Option Value} {h : Heap} {gs : Array GenState} {d : Drawn} {k : Nat} {os : OsState}
theorem x_list0p (hq : ∀ T h', KeepAll h h' → h.get? T = none → h'.PlainList T #[] → Q (.ref T) ⟨h', gs, d, k, os⟩) : wpAny (model prog w) A (eval (.List [] pos) env) Q E ⟨h, gs, d, k, os⟩ :=
  wpAny_List (wpAny_items_nil ⟨by decide, hq _ _ (KeepAll.push _ _) (fresh_size _) ⟨0, Heap.get?_push_size _ rfl⟩⟩)
theorem ne_bools {a b : Bool} {s : Shared} (hu : A.units + 64 < cLine) (hq : Q (.bool (a != b)) s) : wpAny (model prog w) A (compareOp .NotEq (.bool a) (.bool b)) Q E s := by
  refine ne_dataH (.bool a) (.bool b) (by rfl) (by rfl) hu ?_
  have : (!PyData.eqv (.bool a) (.bool b)) = (a != b) := by cases a <;> cases b <;> rfl
  rw [this]; exact hq

/-- paths.index(x) -/
theorem x_pathIndex {ps : List Str} {n : Nat} {p : Addr} {vs : List Value} {x : Str} {j : Nat} {t : Tok} {p₁ p₂ apos cpos : Pos} (F : InF r env m h gs d os) (hpm : m (Str.ofString "paths") = some (.ref p)) (hx : m x = some (.str (pathAt ps j) t))
    (hl : h.PlainList p vs.toArray) (hv : StrsAre vs ps) (hn : ps.length = n) (h8 : n ≤ 1000) (hj : j < n) (hnd : ∀ i j, i < n → j < n → pathAt ps i = pathAt ps j → i = j)
    (hq : ∀ t k', Q (.int j t) ⟨h, gs, d, k', os⟩) (hcx : canRead env x = true := by kernel_rfl) (hcp : canRead env (Str.ofString "paths") = true := by kernel_rfl)
    (hbase : attributeBase (.Name (Str.ofString "paths") p₁) "index" env (eval (.Name (Str.ofString "paths") p₁) env) = eval (.Name (Str.ofString "paths") p₁) env := by rfl) (hs : starEach [.Name x p₂] env = [(false, eval (.Name x p₂) env)] := by rfl) (hline : (apos.endLine == cpos.line) = true := by decide) :
    wpAny (model prog w) A (eval (.Call (.Attribute (.Name (Str.ofString "paths") p₁) "index" apos) [.Name x p₂] [] cpos) env) Q E ⟨h, gs, d, k, os⟩ := by
  refine x_index (InF.ld F hpm ?_ hcp) hbase hs hline
  refine ⟨p, rfl, ⟨_, hl⟩, InF.ld F hx ?_ hcx⟩
  refine ⟨vs, ps, _, t, j, hl, hv, rfl, by omega, pathAt_get hn hj, fun i hi e => ?_, hq⟩
  have := pathAt_get hn (show i < n by omega)
  rw [this] at e
  have := hnd i j (by omega) hj (Option.some.inj e)
  omega
end

end

section
local macro_rules | `(tactic| walk_at "nm") => `(tactic| first
  | (with_reducible exact up_self)
  | (with_reducible refine up_ne ?_ (by decide +kernel); walk_at "nm")
  | (with_reducible refine cMap_free ?_ (by kernel_rfl); walk_at "nm")
  | (with_reducible assumption)
  | (with_reducible exact rfl))
local macro_rules | `(tactic| walk_at "ld") => `(tactic| refine InF.ld (by assumption) (by walk_at "nm") ?_)
local macro_rules | `(tactic| walk_at "ldn") => `(tactic| refine InF.ldn (by assumption) (by walk_at "nm") ?_)
def LawM (m : Str → Option Value) (p q W H V Sh Ap : Addr) (n : Nat) : Prop :=
  m (Str.ofString "paths") = some (.ref p) ∧ m (Str.ofString "worths") = some (.ref q) ∧ (∃ t, m (Str.ofString "count") = some (.int n t)) ∧ m (Str.ofString "ways") = some (.ref W) ∧ m (Str.ofString "heights") = some (.ref H) ∧
  m (Str.ofString "covers") = some (.ref V) ∧ m (Str.ofString "shared") = some (.ref Sh) ∧ m (Str.ofString "apart") = some (.ref Ap)
theorem LawM.upd {m : Str → Option Value} {p q W H V Sh Ap : Addr} {n : Nat} (x : LawM m p q W H V Sh Ap n) {y : Str} {v : Value}
    (hy : ([Str.ofString "paths", Str.ofString "worths", Str.ofString "count", Str.ofString "ways", Str.ofString "heights", Str.ofString "covers", Str.ofString "shared", Str.ofString "apart"].all fun z => !(z == y)) = true := by decide +kernel) : LawM (upd m y v) p q W H V Sh Ap n := by
  simp only [List.all_cons, List.all_nil, Bool.and_true, Bool.and_eq_true, Bool.not_eq_true'] at hy
  obtain ⟨h1, h2, h3, h4, h5, h6, h7, h8⟩ := hy
  obtain ⟨a, b, ⟨t, c⟩, d, e, f, g, h⟩ := x
  exact ⟨up_ne a h1, up_ne b h2, ⟨t, up_ne c h3⟩, up_ne d h4, up_ne e h5, up_ne f h6, up_ne g h7, up_ne h h8⟩
theorem range_getD (l : List Nat) : (List.range l.length).map (fun j => l.getD j 0) = l := by
  apply List.ext_getElem?
  intro i
  by_cases h : i < l.length
  · simp [h]
  · simp [h]
theorem filter_getD (l : List Nat) (q : Nat → Bool) : ((List.range l.length).filter fun j => q (l.getD j 0)).map (fun j => l.getD j 0) = l.filter q := by
  conv => rhs; rw [← range_getD l]
  rw [List.filter_map]
  rfl
theorem any_path {ps : List Str} {n k : Nat} {l : List Nat} (hnd : ∀ i j, i < n → j < n → pathAt ps i = pathAt ps j → i = j) (hk : k < n) (hl : ∀ x ∈ l, x < n) : ((l.map (pathAt ps)).any fun y => y == pathAt ps k) = decide (k ∈ l) := by
  rw [Bool.eq_iff_iff]
  simp only [List.any_eq_true, List.mem_map, beq_iff_eq, decide_eq_true_eq]
  constructor
  · rintro ⟨y, ⟨x, hx, rfl⟩, e⟩
    rw [← hnd x k (hl x hx) hk e]; exact hx
  · intro h
    exact ⟨_, ⟨k, h, rfl⟩, rfl⟩
theorem getD_mem' {l : List Nat} {j : Nat} (h : j < l.length) : l.getD j 0 ∈ l := getD_mem h

noncomputable def lawLoop : List Stmt := match (bodyAt 116).drop 8 with
  | Stmt.For _ _ b _ _ :: _ => b
  | _ => []
section
variable {prog : Program} {w : World} {A : Around} {E : Value → Shared → Prop} {P : Params} {mg mb : Str → Option Value} {r : Rf}

theorem listcompF {env : Env} {m₀ : Str → Option Value} {h₀ : Heap} {gs₀ : Array GenState} {d₀ : Drawn} {os₀ : OsState} (F₀ : InF r env m₀ h₀ gs₀ d₀ os₀) {elt iter : Expr} {x : Str} {px : Pos} {ifs : List Expr} {scope : Scope} {pos : Pos} {Q : Value → Shared → Prop} {s : Shared}
    (h : wpAny (model prog w) A (eval iter env) (fun xv s₁ => ∃ n Pv p Fy fp₀ fr, InF r env m₀ s₁.heap s₁.gens s₁.drawn s₁.os ∧ IterSrc prog w A xv s₁.heap n Pv fp₀ ∧ n ≤ 1000 ∧
      EltOk prog w A r env m₀ scope x ifs elt n Pv p Fy fr s₁ ∧
      ∀ s' D (ys : List Value), Mv s₁ s' → s₁.heap.get? D = none → s'.heap.IsList D ys.toArray → (fr → ys.Pairwise (· ≠ ·)) → Paired (fun i y => Fy i y s'.heap) ((List.range n).filter p) ys → Q (.ref D) s') E s)
    (hno : namesOk scope env = true := by kernel_rfl) (hst : ∀ C, canStore (cEnv scope C env) x = true := by intro _; kernel_rfl) (hxf : (scope.names.lookup x != some .free) = true := by kernel_rfl)
    (hs : ∀ x, foldedSetIterable iter env x = pure x := by intro _; rfl) :
    wpAny (model prog w) A (eval (.ListComp elt [⟨.Name x px, iter, ifs, 0⟩] scope pos) env) Q E s := by
  let _ := F₀
  exact listcomp (m := m₀) (s₀ := r) h hno hst hxf hs

/-- one turn of the law's first loop: a row of each table -/
theorem law_turn {L : Addr} {m : Str → Option Value} {h h₆ : Heap} {gs : Array GenState} {d : Drawn} {tk : Nat} {os : OsState} {ps : List Str} {ws : List Int} {ch : Nat → List Nat} {n i : Nat} {p q W H V Sh Ap : Addr} {t₁ : Tok}
    (B : Base P mg mb r.heap) (hh : A.handled = none) (hu : A.units + 64 < cLine) (ok : LawOk ps ws ch n) (hi : i < n) (F : InF r (callEnvC (fdAt 116) L 116) m h gs d os)
    (LH : LawH ps ws ch n h₆ p q W H V) (K₆ : SeqK h₆ h) (nS : h₆.get? Sh = none) (nA : h₆.get? Ap = none) (LM : LawM m p q W H V Sh Ap n) (h1 : m (Str.ofString "one") = some (.int i t₁))
    (tS : AppTab h r.mu Sh i n (shr ws ch)) (tA : AppTab h r.mu Ap i n (apt ws ch n)) (hmS : r.mu Sh) (hmA : r.mu Ap) (hmu : ∀ b, r.mu b → b = Sh ∨ b = Ap) (hne : Sh ≠ Ap) (rS : r.heap.get? Sh = none) (rA : r.heap.get? Ap = none) :
    wpAny (model prog w) A (execs lawLoop (callEnvC (fdAt 116) L 116)) (fun f s' => f = .next ∧ ∃ m', InF r (callEnvC (fdAt 116) L 116) m' s'.heap s'.gens s'.drawn s'.os ∧ SeqK h₆ s'.heap ∧ LawM m' p q W H V Sh Ap n ∧
      AppTab s'.heap r.mu Sh (i + 1) n (shr ws ch) ∧ AppTab s'.heap r.mu Ap (i + 1) n (apt ws ch n)) E ⟨h, gs, d, tk, os⟩ := by
  have LM' := LM
  obtain ⟨mp, mq, ⟨tc, mc⟩, mW, mH, mV, mS, mA⟩ := LM'
  have h8 := ok.max
  -- firsts
  refine wpAny_execs_cons (assign_listcomp (m := m) (s₀ := r) (by rfl) (call1 (InF.built F B B.range'.1 B.range'.2 ⟨.inr ⟨_, rfl⟩, ?_⟩)))
  walk_at "ld"
  refine x_range1 hh (by omega) fun X h₁ k₁ K₁ hsrc => ?_
  have F₁ := F.grow K₁
  refine ⟨_, _, fun _ => true, _, fun j y => ∃ t, y = .str (pathAt ps (firstOf ch i j)) t, F₁, hsrc, by omega, ?_, ?_⟩
  · rintro C j v h' gs' d' k' os' E' hj ⟨_, tv, rfl⟩ F' hmv hC
    refine wpAny_tests_nil ⟨fun _ => ⟨rfl, ?_⟩, fun h => by cases h⟩
    obtain ⟨items, hW, hz, hw⟩ := (LH.keep (K₆.trans (K₁.seq.trans hmv.keep.seq))).ways
    obtain ⟨ai, vi, hai, hli, hvi⟩ := hw i hi
    obtain ⟨aj, vj, haj, hlj, hvj⟩ := hw j hj
    have hlen : vi.length = (ch i).length := by rw [hvi.len_eq, List.length_map]
    have hchl := ok.chlen i hi
    refine subList (listcompF F' (subList ?_))
    walk_at "ld"
    walk_at "ld"
    refine ⟨_, _, _, _, _, rfl, rfl, hW, by omega, by omega, by rw [Int.toNat_natCast]; exact hai, ?_⟩
    refine ⟨_, _, fun jj => decide ((ch i).getD jj 0 ∈ ch j), fun jj y _ => ∃ t, y = .str (pathAt ps ((ch i).getD jj 0)) t, _, False, F', list_src hh hli, by simp; omega, ?_, ?_⟩
    · intro C' jj v h'' gs'' d'' k'' os'' E'' hjj hPv F'' hmv' hC'
      have hjl : jj < (ch i).length := by simpa [hlen] using hjj
      have hkn := ok.chlt i hi _ (getD_mem' hjl)
      have hv : ∃ t, v = .str (pathAt ps ((ch i).getD jj 0)) t := by
        obtain ⟨t, ht⟩ := hvi.at (j := jj) (y := pathAt ps ((ch i).getD jj 0)) (by rw [List.getElem?_map, List.getElem?_eq_getElem hjl, List.getD_eq_getElem?_getD, List.getElem?_eq_getElem hjl]; rfl)
        rw [List.getElem?_toArray, ht] at hPv
        exact ⟨t, (Option.some.inj hPv).symm⟩
      obtain ⟨tx, rfl⟩ := hv
      have K' := hmv'.keep.seq
      refine wpAny_tests_one (wpAny_isTrue_Compare1 ?_)
      walk_at "ld"
      refine subList ?_
      walk_at "ld"
      walk_at "ld"
      refine ⟨_, _, _, _, _, rfl, rfl, K'.list hW, by omega, by omega, by rw [show ((0 : Int) + j).toNat = j by omega]; exact haj, ?_⟩
      refine in_list_strs (K'.list hlj) hvj (wpAny_truthy_bool ?_)
      rw [any_path ok.nodup hkn (ok.chlt j hj)]
      refine ⟨fun h0 => ⟨h0, ?_⟩, fun h0 => ⟨h0, Mv.refl _⟩⟩
      walk_at "ld"
      exact ⟨Mv.refl _, fun x => x.elim, fun _ _ _ => ⟨_, rfl⟩⟩
    · intro s' D ys hmv' hD hl _ hp
      have hp := Paired.strs hp
      have e : ((List.range vi.toArray.size).filter fun jj => decide ((ch i).getD jj 0 ∈ ch j)).map (fun jj => pathAt ps ((ch i).getD jj 0)) = ((ch i).filter fun k => decide (k ∈ ch j)).map (pathAt ps) := by
        rw [← filter_getD (ch i) fun k => decide (k ∈ ch j), List.map_map, show vi.toArray.size = (ch i).length by simpa using hlen]; rfl
      rw [e] at hp
      have htop := ok.top i j hi hj
      cases hf : (ch i).filter (fun k => decide (k ∈ ch j)) with
      | nil => exact absurd hf htop
      | cons f rest =>
      rw [hf] at hp
      obtain ⟨t, vs', rfl, _⟩ := hp.cons_inv
      have ef : firstOf ch i j = f := by unfold firstOf; rw [hf]; rfl
      refine x_int fun t' k => ⟨_, _, _, _, .str (pathAt ps f) t, rfl, rfl, hl, by decide, by decide, rfl, ?_⟩
      refine ⟨hmv'.trans (Mv.of (KeepAll.refl _)), fun x => x.elim, fun _ _ _ => ⟨t, ?_⟩⟩
      rw [ef]
  · intro s₂ Df ys F₂ O₂ hDf hys hfy
    have hfs := Paired.strs hfy
    have efl : ((List.range n).filter fun _ => true) = List.range n := List.filter_eq_self.mpr fun _ _ => rfl
    rw [efl] at hfs
    have K₂ : SeqK h₁ s₂.heap := fun b o items ep hd e => O₂ b o (fun hs => F₁.seq_ne (s := ⟨h₁, gs, d, k₁, os⟩) hs hd e rfl) e
    obtain ⟨h₂, gs, d, k₂, os⟩ := s₂
    have K₂ : SeqK h₁ h₂ := K₂
    have Kt := K₁.seq.trans K₂
    have K₆₂ := K₆.trans Kt
    have tS₂ := tS.keep Kt
    have tA₂ := tA.keep Kt
    have LM₂ : LawM (upd m (Str.ofString "firsts") (.ref Df)) p q W H V Sh Ap n := LM.upd
    have hyl : ys.length = n := by rw [hfs.len_eq]; simp
    -- shared.append(..)
    obtain ⟨itS, hSl, hSz, hSr⟩ := id tS₂
    refine wpAny_execs_cons (x_append ?_)
    walk_at "ld"
    refine ⟨Sh, rfl, ⟨_, hSl⟩, ?_⟩
    refine listcomp (m := upd m (Str.ofString "firsts") (.ref Df)) (s₀ := r) (InF.ld F₂ (by walk_at "nm") ?_)
    refine ⟨_, _, fun _ => true, fun j y _ => ∃ t, y = .int (shr ws ch i j) t, _, False, F₂, list_src hh hys, by simp [hyl]; omega, ?_, ?_⟩
    · intro C j v h' gs' d' k' os' E' hj hPv F' hmv hC
      have hjn : j < n := by simpa [hyl] using hj
      refine wpAny_tests_nil ⟨fun _ => ⟨rfl, ?_⟩, fun h => by cases h⟩
      obtain ⟨t, ht⟩ := hfs.at (j := j) (y := pathAt ps (firstOf ch i j)) (by simp [hjn])
      rw [List.getElem?_toArray, ht] at hPv; cases hPv
      have hfn : firstOf ch i j < n := by
        have htop := ok.top i j hi hjn
        unfold firstOf
        cases hf : (ch i).filter (fun k => decide (k ∈ ch j)) with
        | nil => exact absurd hf htop
        | cons f rest =>
          have : f ∈ (ch i).filter (fun k => decide (k ∈ ch j)) := by rw [hf]; exact List.mem_cons_self
          exact ok.chlt i hi _ (List.mem_filter.mp this).1
      have LH' := LH.keep (K₆₂.trans hmv.keep.seq)
      obtain ⟨hv, hHl, hHi⟩ := LH'.heights
      obtain ⟨pv, hpl, hpi⟩ := LH'.paths
      refine subList ?_
      walk_at "ld"
      refine x_pathIndex F' (by walk_at "nm") (by walk_at "nm") hpl hpi ok.plen (by omega) hfn ok.nodup fun t k => ?_
      obtain ⟨tv, htv⟩ := hHi.get (firstOf ch i j) (hgt ws ch (firstOf ch i j)) (by simp [hfn])
      refine ⟨_, _, _, _, .int (hgt ws ch (firstOf ch i j)) tv, rfl, rfl, hHl, by omega, by omega, by simpa using htv, ?_⟩
      exact ⟨Mv.of (KeepAll.refl _), fun x => x.elim, fun _ _ _ => ⟨_, rfl⟩⟩
    · intro s₃ D₃ zs hmv hD hl _ hp
      obtain ⟨h₃, gs₃, d₃, k₃, os₃⟩ := s₃
      have F₃ := InF.aft (t := ⟨h₂, gs, d, k₂, os⟩) hmv F₂
      have Kz := hmv.keep.seq
      have Kz : SeqK h₂ h₃ := Kz
      have tS₃ := tS₂.keep Kz
      have tA₃ := tA₂.keep Kz
      have K₆₃ := K₆₂.trans Kz
      obtain ⟨hzl, hzr⟩ := Paired.range hp
      have hzl : zs.length = n := by rw [hzl]; simpa using hyl
      have eys : ys.toArray.size = n := by simpa using hyl
      rw [eys] at hzr
      obtain ⟨itS, hSl, hSz, hSr⟩ := tS₃
      have hDm : ¬ r.mu D₃ := fun hm => by
        rcases hmu _ hm with rfl | rfl
        · obtain ⟨_, hx, _⟩ := tS₂; obtain ⟨_, e⟩ := hx; rw [hD] at e; cases e
        · obtain ⟨_, hx, _⟩ := tA₂; obtain ⟨_, e⟩ := hx; rw [hD] at e; cases e
      refine ⟨_, hSl, by omega, fun h₄ hS₄ B₄ => ?_⟩
      have tS₄ : AppTab h₄ r.mu Sh (i + 1) n (shr ws ch) := AppTab.grow hSl hSz hSr hS₄ B₄ hmS hDm hl (by simpa using hzl) fun j hj => by
        obtain ⟨y, hy, t, rfl⟩ := hzr j hj
        exact ⟨t, by simpa using hy⟩
      have tA₄ := tA₃.but B₄ hne hmS
      have F₄ := F₃.app hSl B₄ rS hmS
      have K₆₄ : SeqK h₆ h₄ := fun b o items ep hd e => B₄.extBut b o (fun e' => by rw [e', nS] at e; cases e) (K₆₃ b o items ep hd e)
      clear hzr hp hl hD hSr hSl hSz tA₃
      -- apart.append(..)
      obtain ⟨itA, hAl, hAz, hAr⟩ := id tA₄
      refine wpAny_execs_cons (x_append ?_)
      walk_at "ld"
      refine ⟨Ap, rfl, ⟨_, hAl⟩, ?_⟩
      refine listcomp (m := upd m (Str.ofString "firsts") (.ref Df)) (s₀ := r) (call1 (InF.built F₄ B B.range'.1 B.range'.2 ⟨.inr ⟨_, rfl⟩, InF.ld F₄ (by walk_at "nm") ?_⟩))
      refine x_range1 hh (by omega) fun X h₅ k₅ K₅ hsrc => ?_
      have F₅ := F₄.grow K₅
      refine ⟨_, _, fun _ => true, fun j y _ => ∃ t, y = .int (apt ws ch n i j) t, _, False, F₅, hsrc, by omega, ?_, ?_⟩
      · rintro C j v h' gs' d' k' os' E' hj ⟨_, tv, rfl⟩ F' hmv hC
        refine wpAny_tests_nil ⟨fun _ => ⟨rfl, ?_⟩, fun h => by cases h⟩
        refine call1 (InF.built F' B B.sum'.1 B.sum'.2 ⟨.inl ⟨_, rfl⟩, ?_⟩)
        refine listcompF F' (call1 (InF.built F' B B.range'.1 B.range'.2 ⟨.inr ⟨_, rfl⟩, InF.ld F' (by walk_at "nm") ?_⟩))
        refine x_range1 hh (by omega) fun X h₆' k₆ K₆' hsrc' => ?_
        have F₆ := F'.grow K₆'
        refine ⟨_, _, fun k => (decide (k ∈ ch i) != decide (k ∈ ch j)), fun k y _ => ∃ t, y = .int (worthAt ws k) t, _, False, F₆, hsrc', by omega, ?_, ?_⟩
        · rintro C' k v h'' gs'' d'' k'' os'' E'' hk ⟨_, tw, rfl⟩ F'' hmv' hC'
          have LH' := LH.keep (K₆₄.trans (K₅.seq.trans (hmv.keep.seq.trans (K₆'.seq.trans hmv'.keep.seq))))
          obtain ⟨itc, hcl, hcz, hcr⟩ := LH'.covers
          obtain ⟨ak, kits, hka, hkl, hkz, hkv⟩ := hcr k hk
          obtain ⟨wv, hwl, hwi⟩ := LH'.worths
          refine wpAny_tests_one (wpAny_isTrue_Compare1 (subList (subList ?_)))
          walk_at "ld"
          walk_at "ld"
          refine ⟨_, _, _, _, _, rfl, rfl, hcl, by omega, by omega, by rw [show ((0 : Int) + k).toNat = k by omega]; exact hka, ?_⟩
          walk_at "ld"
          refine ⟨_, _, _, _, _, rfl, rfl, hkl, by omega, by omega, by rw [Int.toNat_natCast]; exact hkv i hi, subList (subList ?_)⟩
          walk_at "ld"
          walk_at "ld"
          refine ⟨_, _, _, _, _, rfl, rfl, hcl, by omega, by omega, by rw [show ((0 : Int) + k).toNat = k by omega]; exact hka, ?_⟩
          walk_at "ld"
          refine ⟨_, _, _, _, _, rfl, rfl, hkl, by omega, by omega, by rw [show ((0 : Int) + j).toNat = j by omega]; exact hkv j hj, ?_⟩
          refine ne_bools hu (wpAny_truthy_bool ⟨fun h0 => ⟨h0, subList ?_⟩, fun h0 => ⟨h0, Mv.refl _⟩⟩)
          walk_at "ld"
          walk_at "ld"
          obtain ⟨tx, htx⟩ := hwi.get k _ (worthAt_get ok.wlen hk)
          refine ⟨_, _, _, _, .int (worthAt ws k) tx, rfl, rfl, hwl.isList, by omega, by omega, by rw [show ((0 : Int) + k).toNat = k by omega]; simpa using htx, ?_⟩
          exact ⟨Mv.refl _, fun x => x.elim, fun _ _ _ => ⟨_, rfl⟩⟩
        · intro s₇ D₇ us hmv' hD' hl' _ hp'
          obtain ⟨h₇, gs₇, d₇, k₇, os₇⟩ := s₇
          refine x_sum hh hl' (Paired.ints hp') fun t h₈ k₈ K₈ => ?_
          exact ⟨(Mv.of (s := ⟨h', gs', d', k', os'⟩) (t := k₆) K₆').trans (hmv'.trans (Mv.of K₈)), fun x => x.elim, fun _ _ _ => ⟨t, rfl⟩⟩
      · intro s₇ D₇ us hmv' hD' hl' _ hp'
        obtain ⟨h₇, gs₇, d₇, k₇, os₇⟩ := s₇
        have F₇ := InF.aft (t := ⟨h₅, gs₃, d₃, k₅, os₃⟩) hmv' F₅
        have Kz : SeqK h₄ h₇ := K₅.seq.trans hmv'.keep.seq
        obtain ⟨hul, hur⟩ := Paired.range hp'
        obtain ⟨itA, hAl, hAz, hAr⟩ := tA₄.keep Kz
        have tS₇ := tS₄.keep Kz
        have hDm' : ¬ r.mu D₇ := fun hm => by
          rcases hmu _ hm with rfl | rfl
          · obtain ⟨_, hx, _⟩ := tS₄.keep K₅.seq; obtain ⟨_, e⟩ := hx; rw [hD'] at e; cases e
          · obtain ⟨_, hx, _⟩ := tA₄.keep K₅.seq; obtain ⟨_, e⟩ := hx; rw [hD'] at e; cases e
        refine ⟨_, hAl, by omega, fun h₈ hA₈ B₈ => wpAny_execs_nil ⟨rfl, _, F₇.app hAl B₈ rA hmA, ?_, LM₂, tS₇.but B₈ hne.symm hmA, ?_⟩⟩
        · exact fun b o items ep hd e => B₈.extBut b o (fun e' => by rw [e', nA] at e; cases e) (Kz b o items ep hd (K₆₄ b o items ep hd e))
        · exact AppTab.grow hAl hAz hAr hA₈ B₈ hmA hDm' hl' (by simpa using hul) fun j hj => by
            obtain ⟨y, hy, t, rfl⟩ := hur j hj
            exact ⟨t, by simpa using hy⟩
end

end

section
local macro_rules | `(tactic| walk_at "nm") => `(tactic| first
  | (with_reducible exact up_self)
  | (with_reducible refine up_ne ?_ (by decide +kernel); walk_at "nm")
  | (with_reducible refine cMap_free ?_ (by kernel_rfl); walk_at "nm")
  | (with_reducible assumption)
  | (with_reducible exact rfl))
local macro_rules | `(tactic| walk_at "ld") => `(tactic| refine InF.ld (by assumption) (by walk_at "nm") ?_)
local macro_rules | `(tactic| walk_at "ldn") => `(tactic| refine InF.ldn (by assumption) (by walk_at "nm") ?_)
section
variable {prog : Program} {w : World} {A : Around} {E : Value → Shared → Prop} {P : Params} {mg mb : Str → Option Value}

/-- T[x][y] -/
theorem x_tcell {Q : Value → Shared → Prop} {r : Rf} {env : Env} {m : Str → Option Value} {h : Heap} {gs : Array GenState} {d : Drawn} {k : Nat} {os : OsState} {T : Addr} {n : Nat} {M : Nat → Nat → Int} {z x y : Str} {i j : Nat} {a b : Int} {t u : Tok} {p₁ p₂ p₃ p₄ p₅ : Pos} (F : InF r env m h gs d os) (hM : TabAt h T n M)
    (hz : m z = some (.ref T)) (hx : m x = some (.int a t)) (hy : m y = some (.int b u)) (ea : a = i) (eb : b = j) (hi : i < n) (hj : j < n) (hn : n ≤ 1000)
    (hq : ∀ t, Q (.int (M i j) t) ⟨h, gs, d, k, os⟩) (hcz : canRead env z = true := by kernel_rfl) (hcx : canRead env x = true := by kernel_rfl) (hcy : canRead env y = true := by kernel_rfl) :
    wpAny (model prog w) A (eval (.Subscript (.Subscript (.Name z p₁) (.Name x p₂) p₃) (.Name y p₄) p₅) env) Q E ⟨h, gs, d, k, os⟩ := by
  subst ea; subst eb
  obtain ⟨items, hl, hs, hit⟩ := hM
  obtain ⟨ar, its, hit0, hl', hs', hit'⟩ := hit i hi
  obtain ⟨t', ht'⟩ := hit' j hj
  refine subList (subList (InF.ld F hz (InF.ld F hx ?_ hcx) hcz))
  refine ⟨_, _, _, _, _, rfl, rfl, hl, by omega, by omega, by rw [Int.toNat_natCast]; exact hit0, InF.ld F hy ?_ hcy⟩
  exact ⟨_, _, _, _, _, rfl, rfl, hl', by omega, by omega, by rw [Int.toNat_natCast]; exact ht', hq t'⟩
/-- l[x] for a list of ints -/
theorem x_icell {Q : Value → Shared → Prop} {r : Rf} {env : Env} {m : Str → Option Value} {h : Heap} {gs : Array GenState} {d : Drawn} {k : Nat} {os : OsState} {T : Addr} {vs : List Value} {ns : List Int} {z x : Str} {i : Nat} {a v : Int} {t : Tok} {p₁ p₂ p₃ : Pos} (F : InF r env m h gs d os) (hl : h.IsList T vs.toArray) (hv : IntsAre vs ns)
    (hz : m z = some (.ref T)) (hx : m x = some (.int a t)) (ea : a = i) (hi : ns[i]? = some v) (hn : i ≤ 1000)
    (hq : ∀ t, Q (.int v t) ⟨h, gs, d, k, os⟩) (hcz : canRead env z = true := by kernel_rfl) (hcx : canRead env x = true := by kernel_rfl) :
    wpAny (model prog w) A (eval (.Subscript (.Name z p₁) (.Name x p₂) p₃) env) Q E ⟨h, gs, d, k, os⟩ := by
  subst ea
  obtain ⟨tx, htx⟩ := hv.get i v hi
  refine subList (InF.ld F hz (InF.ld F hx ?_ hcx) hcz)
  exact ⟨_, _, _, _, .int v tx, rfl, rfl, hl, by omega, by omega, by rw [Int.toNat_natCast]; simpa using htx, hq tx⟩
theorem x_pow2 {Q : Value → Shared → Prop} {h : Heap} {gs : Array GenState} {d : Drawn} {k : Nat} {os : OsState} {n : Nat} {t u : Tok} (hn : n ≤ 8) (hq : ∀ t k', Q (.int (2 ^ n) t) ⟨h, gs, d, k', os⟩) : wpAny (model prog w) A (binaryOp .Pow (.int 2 t) (.int n u)) Q E ⟨h, gs, d, k, os⟩ := by
  refine pow_int (by omega) ?_ ?_
  · have : Builtin.Int.intBits 2 = 2 := by decide
    rw [this]; omega
  · rw [Int.toNat_natCast]; exact hq _ _
end

end

section
local macro_rules | `(tactic| walk_at "nm") => `(tactic| first
  | (with_reducible exact up_self)
  | (with_reducible refine up_ne ?_ (by decide +kernel); walk_at "nm")
  | (with_reducible refine cMap_free ?_ (by kernel_rfl); walk_at "nm")
  | (with_reducible assumption)
  | (with_reducible exact rfl))
local macro_rules | `(tactic| walk_at "ld") => `(tactic| refine InF.ld (by assumption) (by walk_at "nm") ?_)
local macro_rules | `(tactic| walk_at "ldn") => `(tactic| refine InF.ldn (by assumption) (by walk_at "nm") ?_)
section
variable {P : Params} {mg mb : Str → Option Value} {h : Heap}
theorem Base.fn116 (B : Base P mg mb h) : h.get? 116 = some (fnObj 116) := B.K _ _ (by kernel_rfl)
theorem Base.cd116 (B : Base P mg mb h) : h.CodeRec (fdAt 116).code (fdAt 116).qualname := codeRec_of B.K (by kernel_rfl)
end
theorem getD_any {α : Type} {l : List α} {j : Nat} {d e : α} (h : j < l.length) : l.getD j d = l.getD j e := by
  simp only [List.getD_eq_getElem?_getD, List.getElem?_eq_getElem h]; rfl
theorem map_getD' {ps : List Str} {l : List Nat} {j : Nat} (h : j < l.length) : (l.map (pathAt ps)).getD j Str.empty = pathAt ps (l.getD j 0) := by
  simp only [List.getD_eq_getElem?_getD, List.getElem?_map, List.getElem?_eq_getElem h]; rfl
theorem ManAt.st {r : Rf} {env : Env} {m : Str → Option Value} {h h' : Heap} {gs : Array GenState} {d : Drawn} {os : OsState} {n : Str} {x : Addr} (M : ManAt h x) (F : InF r env m h gs d os)
    (O : ∀ b o, slotOf env n ≠ some b → h.get? b = some o → h'.get? b = some o) (hk : (env.kindOf n == some .cell) = true := by kernel_rfl) : ManAt h' x := by
  obtain ⟨dx, od, hx, hd, hl⟩ := M
  have ne : ∀ b o, h.get? b = some o → (∀ v, o.data ≠ .cell v) → slotOf env n ≠ some b := fun b o e hn hs => by
    unfold slotOf at hs
    rw [beq_iff_eq.mp hk] at hs
    obtain ⟨o', ho', hd'⟩ := F.cell n b hs
    rw [e] at ho'; cases ho'
    exact hn _ hd'
  refine ⟨dx, od, O _ _ (ne _ _ hx (fun v e => nomatch e)) hx, O _ _ (ne _ _ hd (fun v e => ?_)) hd, hl⟩
  unfold lookIn at hl
  rw [e] at hl; cases hl
section
variable {prog : Program} {w : World} {A : Around} {E : Value → Shared → Prop} {P : Params} {mg mb : Str → Option Value} {s : Shared}

/-- the law's first half: all up to the two tables -/
theorem law_head {sc : Addr} {vs : List Value} {ns : List Int} {ch : Nat → List Nat} {n L : Nat} {Q : Flow → Shared → Prop} (B : Base P mg mb s.heap) (hh : A.handled = none) (hd : A.depth + 60 < recursionLimit) (hu : A.units + 100 < cLine)
    (hsc : s.heap.IsList sc vs.toArray) (hi : IntsAre vs ns) (hlen : ns.length ≤ 63) (ok : LawOk (tree ns).1 (tree ns).2 ch n) {h : Heap} {gs : Array GenState} {d : Drawn} {k : Nat} {os : OsState} {m : Str → Option Value}
    (F : InF (.of s s.heap fun _ => False) (callEnvC (fdAt 116) L 116) m h gs d os) (hm : m (Str.ofString "script") = some (.ref sc))
    (hQ : ∀ (m : Str → Option Value) (h : Heap) (gs : Array GenState) (d : Drawn) (k : Nat) (os : OsState) (p q W H V Sh Ap : Addr), InF (.of s s.heap fun _ => False) (callEnvC (fdAt 116) L 116) m h gs d os → LawM m p q W H V Sh Ap n → LawH (tree ns).1 (tree ns).2 ch n h p q W H V →
      TabAt h Sh n (shr (tree ns).2 ch) → TabAt h Ap n (apt (tree ns).2 ch n) → wpAny (model prog w) A (execs ((bodyAt 116).drop 9) (callEnvC (fdAt 116) L 116)) Q E ⟨h, gs, d, k, os⟩) :
    wpAny (model prog w) A (execs (bodyAt 116) (callEnvC (fdAt 116) L 116)) Q E ⟨h, gs, d, k, os⟩ := by
  generalize hps : (tree ns).1 = ps at *
  generalize hws : (tree ns).2 = ws at *
  have h8 := ok.max
  have KF := F.keep
  -- paths, worths = _law_tree(script)
  refine wpAny_execs_cons (Assign_Tuple (callF1 (F.glob B (B.gl (v := .ref 106) (by kernel_rfl)) ⟨106, rfl, ?_⟩)))
  walk_at "ld"
  have B₁ := B.keeps KF
  refine ⟨⟨_, _, B₁.fn106, rfl⟩, tree_spec (s := ⟨h, gs, d, k, os⟩) B₁ hh (by omega) (KF.seq.list hsc) hi hlen fun s₂ T p q vp vq Mv₂ hT hp hvp hq hvq hpq hp0 hq0 => ?_⟩
  rw [hps] at hvp
  rw [hws] at hvq
  have F := InF.aft Mv₂ F
  obtain ⟨h₂, gs, d, k₂, os⟩ := s₂
  refine x_assignT2 hh hT fun h₃ K₃ => ?_
  have F := F.grow K₃
  refine assign_Name (InF.st F fun h₄ k F S₄ _ => assign_Name (InF.st F fun h₅ k F S₅ _ => ?_))
  have S := (K₃.seq.trans S₄).trans S₅
  have hp := S.plain hp; have hq := S.plain hq
  clear S S₄ S₅ hT Mv₂ K₃
  have hpl : vp.length = n := by rw [hvp.len_eq, ok.plen]
  -- count, manager
  refine wpAny_execs_cons (wpAny_Assign_Name (InF.len_name F B (by walk_at "nm") hp.isList (n := n) (by simpa using hpl) (by omega) fun tc z => ?_))
  refine InF.st F fun h₆ k F S₆ _ => ?_
  have hp := S₆.plain hp; have hq := S₆.plain hq
  have B₆ := B.keeps F.keep
  refine wpAny_execs_cons (wpAny_Assign_Name (callC0 (P := P) (F.glob B (B.gl (v := .ref 67) (by kernel_rfl)) ⟨rfl, B₆.K, man_spec (s := ⟨_, _, _, _, _⟩) B₆ (by omega) fun s₇ mn Mv₇ hmn => ?_⟩)))
  have F := InF.aft Mv₇ F
  have hp := Mv₇.keep.seq.plain hp; have hq := Mv₇.keep.seq.plain hq
  obtain ⟨h₇, gs, d, k₇, os⟩ := s₇
  refine InF.st F fun h₈ k F₈ S₈ O₈ => ?_
  have hp := S₈.plain hp; have hq := S₈.plain hq
  have hmn := hmn.st F O₈
  clear F O₈
  have F := F₈
  -- ways
  refine wpAny_execs_cons (wpAny_Assign_Name (listcompF F (InF.ld F (by walk_at "nm") ?_)))
  have eps : vp.toArray.size = n := by simpa using hpl
  refine ⟨_, _, fun _ => true, fun i y h' => ∃ a, ∃ us : List Value, y = .ref a ∧ h'.IsList a us.toArray ∧ StrsAre us ((ch i).map (pathAt ps)), _, False, F, list_src hh hp.isList, by omega, ?_, ?_⟩
  · intro C i v h' gs' d' k' os' E' hj hPv F' hmv hC
    have hin : i < n := by omega
    refine wpAny_tests_nil ⟨fun _ => ⟨rfl, ?_⟩, fun h => by cases h⟩
    obtain ⟨t, ht⟩ := hvp.at (pathAt_get ok.plen hin)
    rw [List.getElem?_toArray, ht] at hPv; cases hPv
    have B' := B.keeps F'.keep
    refine call1 (InF.built F' B B.list'.1 B.list'.2 ⟨.inr ⟨_, rfl⟩, ?_⟩)
    refine callF1 (F'.glob B (B.gl (v := .ref 99) (by kernel_rfl)) ⟨99, rfl, ?_⟩)
    walk_at "ld"
    refine ⟨⟨_, _, B'.fn99, rfl⟩, anc_list (s := ⟨h', gs', d', k', os'⟩) B' (ok.anc i hin) (ok.chlen i hin) hh (by omega) fun s' T us hmv' hT hTl hul huv => ?_⟩
    refine ⟨hmv', fun x => x.elim, fun h'' hk _ => ⟨T, us, rfl, ?_, strs_of (by simpa using hul) fun j v hj => ?_⟩⟩
    · obtain ⟨o, ho, hr⟩ := hTl
      exact ⟨o, hk _ _ hT ho, hr⟩
    · obtain ⟨t, rfl⟩ := huv j v hj
      have hjl : j < (ch i).length := by
        rw [← hul]
        rcases Nat.lt_or_ge j us.length with h | h
        · exact h
        · rw [List.getElem?_eq_none h] at hj; cases hj
      refine ⟨t, ?_⟩
      rw [getD_any (by simpa using hjl)]
  · intro s₉ W yw Mv₉ hW hWl _ hWr
    rw [eps] at hWr
    obtain ⟨hwl, hwr⟩ := Paired.range hWr
    have F₉ := InF.aft Mv₉ F
    have hp := Mv₉.keep.seq.plain hp; have hq := Mv₉.keep.seq.plain hq
    have hmn := hmn.keeps Mv₉.keep
    obtain ⟨h₉, gs, d, k₉, os⟩ := s₉
    refine InF.st F₉ fun h₁₀ k F₁₀ S₁₀ O₁₀ => ?_
    have hmn := hmn.st F₉ O₁₀
    have hp := S₁₀.plain hp; have hq := S₁₀.plain hq
    have hWl := S₁₀.list hWl
    have hways : ∀ i, i < n → ∃ a, ∃ us : List Value, yw.toArray[i]? = some (.ref a) ∧ h₁₀.IsList a us.toArray ∧ StrsAre us ((ch i).map (pathAt ps)) := fun i hi => by
      obtain ⟨y, e1, a, us, rfl, e2, e3⟩ := hwr i hi
      exact ⟨a, us, by simpa using e1, S₁₀.list e2, e3⟩
    clear hwr hWr O₁₀ F₉ F
    -- heights
    refine wpAny_execs_cons (wpAny_Assign_Name (listcompF F₁₀ (InF.ld F₁₀ (by walk_at "nm") ?_)))
    have ews : yw.toArray.size = n := by simpa using hwl
    refine ⟨_, _, fun _ => true, fun i y _ => ∃ t, y = .int (hgt ws ch i) t, _, False, F₁₀, list_src hh hWl, by omega, ?_, ?_⟩
    · intro C i v h' gs' d' k' os' E' hj hPv F' hmv hC
      have hin : i < n := by omega
      refine wpAny_tests_nil ⟨fun _ => ⟨rfl, ?_⟩, fun h => by cases h⟩
      obtain ⟨a, us, ha, hal, hus⟩ := hways i hin
      rw [ha] at hPv; cases hPv
      have hal := hmv.keep.seq.list hal
      have hul : us.length = (ch i).length := by rw [hus.len_eq, List.length_map]
      have hchl := ok.chlen i hin
      refine call1 (InF.built F' B B.sum'.1 B.sum'.2 ⟨.inl ⟨_, rfl⟩, ?_⟩)
      refine listcompF F' (InF.ld F' (by walk_at "nm") ?_)
      refine ⟨_, _, fun _ => true, fun jj y _ => ∃ t, y = .int (worthAt ws ((ch i).getD jj 0)) t, _, False, F', list_src hh hal, by simp; omega, ?_, ?_⟩
      · intro C' jj v h'' gs'' d'' k'' os'' E'' hjj hPv F'' hmv' hC'
        have hjl : jj < (ch i).length := by simpa [hul] using hjj
        have hkn := ok.chlt i hin _ (getD_mem' hjl)
        obtain ⟨t, ht⟩ := hus.at (j := jj) (y := pathAt ps ((ch i).getD jj 0)) (by rw [List.getElem?_map, List.getElem?_eq_getElem hjl, List.getD_eq_getElem?_getD, List.getElem?_eq_getElem hjl]; rfl)
        rw [List.getElem?_toArray, ht] at hPv; cases hPv
        refine wpAny_tests_nil ⟨fun _ => ⟨rfl, subList ?_⟩, fun h => by cases h⟩
        walk_at "ld"
        have K' := hmv.keep.seq.trans hmv'.keep.seq
        refine x_pathIndex F'' (by walk_at "nm") (by walk_at "nm") (K'.plain hp) hvp ok.plen (by omega) hkn ok.nodup fun t k => ?_
        obtain ⟨tx, htx⟩ := hvq.get _ _ (worthAt_get ok.wlen hkn)
        refine ⟨_, _, _, _, .int (worthAt ws ((ch i).getD jj 0)) tx, rfl, rfl, (K'.plain hq).isList, by omega, by omega, by rw [Int.toNat_natCast]; simpa using htx, ?_⟩
        exact ⟨Mv.of (KeepAll.refl _), fun x => x.elim, fun _ _ _ => ⟨_, rfl⟩⟩
      · intro s₁₁ D₁₁ zs hmv' hD' hl' _ hp'
        obtain ⟨h₁₁, gs₁₁, d₁₁, k₁₁, os₁₁⟩ := s₁₁
        have efl : ((List.range us.toArray.size).filter fun _ => true) = List.range (ch i).length := by rw [show us.toArray.size = (ch i).length by simpa using hul]; exact List.filter_eq_self.mpr fun _ _ => rfl
        have hz := Paired.ints hp'
        rw [efl] at hz
        have ez : (List.range (ch i).length).map (fun jj => worthAt ws ((ch i).getD jj 0)) = (ch i).map fun k => worthAt ws k := by
          conv => rhs; rw [← range_getD (ch i)]
          rw [List.map_map]; rfl
        rw [ez] at hz
        refine x_sum hh hl' hz fun t h₁₂ k₁₂ K₁₂ => ?_
        exact ⟨hmv'.trans (Mv.of K₁₂), fun x => x.elim, fun _ _ _ => ⟨t, rfl⟩⟩
    · intro s₁₁ H yh Mv₁₁ hH hHl _ hHr
      obtain ⟨h₁₁, gs, d, k₁₁, os⟩ := s₁₁
      have F₁₁ := InF.aft (t := ⟨h₁₀, _, _, k, _⟩) Mv₁₁ F₁₀
      have hHi : IntsAre yh ((List.range n).map (hgt ws ch)) := by
        have := Paired.ints hHr
        rwa [ews, show ((List.range n).filter fun _ => true) = List.range n from List.filter_eq_self.mpr fun _ _ => rfl] at this
      have hmn := hmn.keeps Mv₁₁.keep
      refine InF.st F₁₁ fun h₁₂ k F₁₂ S₁₂ O₁₂ => ?_
      have hmn := hmn.st F₁₁ O₁₂
      have S := Mv₁₁.keep.seq.trans S₁₂
      have hp := S.plain hp; have hq := S.plain hq; have hWl := S.list hWl; have hHl := S₁₂.list hHl
      have hways : ∀ i, i < n → ∃ a, ∃ us : List Value, yw.toArray[i]? = some (.ref a) ∧ h₁₂.IsList a us.toArray ∧ StrsAre us ((ch i).map (pathAt ps)) := fun i hi => by
        obtain ⟨a, us, e1, e2, e3⟩ := hways i hi
        exact ⟨a, us, e1, S.list e2, e3⟩
      clear hHr O₁₂ F₁₁ S F₁₀
      -- covers
      refine wpAny_execs_cons (wpAny_Assign_Name (listcompF F₁₂ (InF.ld F₁₂ (by walk_at "nm") ?_)))
      refine ⟨_, _, fun _ => true, fun kk y h' => ∃ a, ∃ us : List Value, y = .ref a ∧ h'.IsList a us.toArray ∧ us.length = n ∧ ∀ i, i < n → us[i]? = some (.bool (decide (kk ∈ ch i))), _, False, F₁₂, list_src hh hp.isList, by omega, ?_, ?_⟩
      · intro C kk v h' gs' d' k' os' E' hj hPv F' hmv hC
        have hkn : kk < n := by omega
        refine wpAny_tests_nil ⟨fun _ => ⟨rfl, ?_⟩, fun h => by cases h⟩
        obtain ⟨tk, htk⟩ := hvp.at (pathAt_get ok.plen hkn)
        rw [List.getElem?_toArray, htk] at hPv; cases hPv
        have hp' := hmv.keep.seq.plain hp
        refine listcompF F' (InF.ld F' (by walk_at "nm") ?_)
        refine ⟨_, _, fun _ => true, fun i y _ => y = .bool (decide (kk ∈ ch i)), _, False, F', list_src hh hp'.isList, by omega, ?_, ?_⟩
        · intro C' i v h'' gs'' d'' k'' os'' E'' hjj hPv F'' hmv' hC'
          have hin : i < n := by omega
          obtain ⟨ti, hti⟩ := hvp.at (pathAt_get ok.plen hin)
          rw [List.getElem?_toArray, hti] at hPv; cases hPv
          refine wpAny_tests_nil ⟨fun _ => ⟨rfl, ?_⟩, fun h => by cases h⟩
          have B'' := B.keeps F''.keep
          have hm'' := hmn.keeps (hmv.keep.trans hmv'.keep)
          refine callM2 (P := P) (InF.ld F'' (by walk_at "nm") ⟨mn, rfl, hm'', B''.K, x_tuple2 (x_str fun th₁ z => InF.ld F'' (by walk_at "nm") fun T₁ h₂₁ K₂₁ _ hT₁ => ?_)⟩)
          have F₂₁ := F''.grow K₂₁
          refine x_tuple2 (x_str fun th₂ z => InF.ld F₂₁ (by walk_at "nm") fun T₂ h₂₂ K₂₂ _ hT₂ => ?_)
          have B₂₂ := B''.keeps (K₂₁.trans K₂₂)
          have tk := ok.txt kk hkn
          refine ⟨B₂₂.fn64, uri_spec (s := ⟨h₂₂, _, _, _, _⟩) B₂₂ hh (by omega) (by omega) (K₂₂.seq.tuple hT₁) hT₂ tk.1 (by decide +kernel) tk.2 (ok.txt i hin).2 fun s' hmv'' => ?_⟩
          rw [ok.cov kk i hkn hin]
          exact ⟨(Mv.of (s := ⟨h'', gs'', d'', k'', os''⟩) (t := k'') (K₂₁.trans K₂₂)).trans ⟨hmv''.keep, hmv''.gens, hmv''.bare, hmv''.os, hmv''.drawn⟩, fun x => x.elim, fun _ _ _ => rfl⟩
        · intro s₁₃ D₁₃ zs hmv' hD' hl' _ hp'
          have hz := Paired.range hp'
          rw [eps] at hz
          refine ⟨hmv', fun x => x.elim, fun h'' hk _ => ⟨D₁₃, zs, rfl, ?_, hz.1, fun i hi => ?_⟩⟩
          · obtain ⟨o, ho, hr⟩ := hl'
            exact ⟨o, hk _ _ hD' ho, hr⟩
          · obtain ⟨y, hy, rfl⟩ := hz.2 i hi
            exact hy
      · intro s₁₃ V yv Mv₁₃ hV hVl _ hVr
        obtain ⟨h₁₃, gs, d, k₁₃, os⟩ := s₁₃
        have F₁₃ := InF.aft (t := ⟨h₁₂, _, _, k, _⟩) Mv₁₃ F₁₂
        have hVr := Paired.range hVr
        rw [eps] at hVr
        refine InF.st F₁₃ fun h₁₄ k F₁₄ S₁₄ _ => ?_
        have S := Mv₁₃.keep.seq.trans S₁₄
        have LH : LawH ps ws ch n h₁₄ p q W H V := by
          refine ⟨⟨_, S.plain hp, hvp⟩, ⟨_, S.plain hq, hvq⟩, ⟨_, S.list hWl, ews, fun i hi => ?_⟩, ⟨_, S.list hHl, hHi⟩, ⟨_, S₁₄.list hVl, by simpa using hVr.1, fun kk hk => ?_⟩⟩
          · obtain ⟨a, us, e1, e2, e3⟩ := hways i hi
            exact ⟨a, us, e1, S.list e2, e3⟩
          · obtain ⟨y, e1, a, us, rfl, e2, e3, e4⟩ := hVr.2 kk hk
            exact ⟨a, us.toArray, by simpa using e1, S₁₄.list e2, by simpa using e3, fun i hi => by simpa using e4 i hi⟩
        clear hVr hways hp hq hWl hHl hVl S hmn F₁₃ F₁₂
        -- shared, apart
        refine wpAny_execs_cons (wpAny_Assign_Name (x_list0p fun Sh h₁₅ K₁₅ nS hSl => ?_))
        have F₁₅ := F₁₄.grow K₁₅
        refine InF.st F₁₅ fun h₁₆ k F₁₆ S₁₆ O₁₆ => ?_
        refine wpAny_execs_cons (wpAny_Assign_Name (x_list0p fun Ap h₁₇ K₁₇ nA hAl => ?_))
        have F₁₇ := F₁₆.grow K₁₇
        refine InF.st F₁₇ fun h₁₈ k F₁₈ S₁₈ _ => ?_
        have hS₁₆ := S₁₆.plain hSl
        have hSl := S₁₈.plain (K₁₇.seq.plain hS₁₆)
        have hAl := S₁₈.plain hAl
        have hne : Sh ≠ Ap := by
          rintro rfl
          obtain ⟨_, ho⟩ := hS₁₆
          rw [nA] at ho; cases ho
        have nA₁₄ : h₁₄.get? Ap = none := by
          cases e : h₁₄.get? Ap with
          | none => rfl
          | some o =>
            have e := K₁₅ _ _ e
            by_cases hs : slotOf (callEnvC (fdAt 116) L 116) (Str.ofString "shared") = some Ap
            · obtain ⟨o, ho⟩ := Fslot_here F₁₆ (slot_Fslot hs); rw [nA] at ho; cases ho
            · rw [O₁₆ Ap o hs e] at nA; cases nA
        have rS : s.heap.get? Sh = none := keep_fresh F₁₄.keep nS
        have rA : s.heap.get? Ap = none := keep_fresh F₁₆.keep nA
        have K₆ : SeqK h₁₄ h₁₈ := ((K₁₅.seq.trans S₁₆).trans K₁₇.seq).trans S₁₈
        have F₁₉ := F₁₈.may fun b => b = Sh ∨ b = Ap
        refine wpAny_execs_cons (for_loop (r := (Rf.of s s.heap fun _ => False).may h₁₈ fun b => b = Sh ∨ b = Ap) (J := fun i m h => LawM m p q W H V Sh Ap n ∧ SeqK h₁₄ h ∧ AppTab h (fun b => b = Sh ∨ b = Ap) Sh i n (shr ws ch) ∧ AppTab h (fun b => b = Sh ∨ b = Ap) Ap i n (apt ws ch n))
          (call1 (InF.built F₁₉ B B.range'.1 B.range'.2 ⟨.inr ⟨_, rfl⟩, InF.ld F₁₉ (by walk_at "nm") ?_⟩)) ?_)
        · refine x_range1 hh (by omega) fun X h₂₀ k₂₀ K₂₀ hsrc => ?_
          refine ⟨_, _, _, _, F₁₉.grow K₂₀, hsrc, ?_, (fun b hb => nomatch hb), ⟨⟨?_, ?_, ⟨tc, ?_⟩, ?_, ?_, ?_, ?_, ?_⟩, K₆.trans K₂₀.seq, ⟨#[], K₂₀.seq.plain hSl, rfl, fun i hi => absurd hi (Nat.not_lt_zero _)⟩, ⟨#[], K₂₀.seq.plain hAl, rfl, fun i hi => absurd hi (Nat.not_lt_zero _)⟩⟩, ?_, ?_⟩
          · rintro b (rfl | rfl)
            · exact plain_seq (K₂₀.seq.plain hSl)
            · exact plain_seq (K₂₀.seq.plain hAl)
          · walk_at "nm"
          · walk_at "nm"
          · walk_at "nm"
          · walk_at "nm"
          · walk_at "nm"
          · walk_at "nm"
          · walk_at "nm"
          · walk_at "nm"
          · rintro i v m h gs d tk os E' hi ⟨_, ti, rfl⟩ F ⟨LM, Kh, tS, tA⟩
            rw [Int.zero_add] at F
            refine wpAny_mono (law_turn (r := ((Rf.of s s.heap fun _ => False).may h₁₈ fun b => b = Sh ∨ b = Ap).now h) B hh (by omega) ok hi F LH Kh nS nA₁₄ LM.upd (by walk_at "nm") tS tA (.inl rfl) (.inr rfl) (fun b hb => hb) hne rS rA) (fun f s' hf => ?_) fun _ _ e => e
            obtain ⟨rfl, m', F', K', LM', tS', tA'⟩ := hf
            exact ⟨m', F', LM', K', tS', tA'⟩
          · rintro m h gs d tk os F ⟨LM, Kh, tS, tA⟩
            exact hQ m h gs d tk os p q W H V Sh Ap ⟨F.ns, F.cell, F.apart, F.fresh, F.keep, F.gens, F.bare, F.os, F.drawn, fun b o _ _ e => F.keep b o e⟩ LM (LH.keep Kh) tS.tab tA.tab
        · rintro i m h h' ⟨LM, Kh, tS, tA⟩ K
          exact ⟨LM, Kh.trans K, tS.keep K, tA.keep K⟩
end

end

section
local macro_rules | `(tactic| walk_at "nm") => `(tactic| first
  | (with_reducible exact up_self)
  | (with_reducible refine up_ne ?_ (by decide +kernel); walk_at "nm")
  | (with_reducible refine cMap_free ?_ (by kernel_rfl); walk_at "nm")
  | (with_reducible assumption)
  | (with_reducible exact rfl))
local macro_rules | `(tactic| walk_at "ld") => `(tactic| refine InF.ld (by assumption) (by walk_at "nm") ?_)
local macro_rules | `(tactic| walk_at "ldn") => `(tactic| refine InF.ldn (by assumption) (by walk_at "nm") ?_)
section
variable {prog : Program} {w : World} {A : Around} {E : Value → Shared → Prop} {P : Params} {mg mb : Str → Option Value} {s : Shared}

theorem lawM_seq {r : Rf} {L : Addr} {m : Str → Option Value} {h : Heap} {gs : Array GenState} {d : Drawn} {os : OsState} (F : InF r (callEnvC (fdAt 116) L 116) m h gs d os) {h' : Heap} {mu : Addr → Prop} : InF (r.may h mu) (callEnvC (fdAt 116) L 116) m h gs d os := F.may mu

theorem foldl_mul_snoc (l : List Int) (i : Nat) (x : Int) (hx : l[i]? = some x) : (l.take (i + 1)).foldl (· * ·) 1 = (l.take i).foldl (· * ·) 1 * x := by
  rw [List.take_add_one, hx, List.foldl_append]; rfl

/-- the law's second half -/
theorem law_tail {ps : List Str} {ws : List Int} {ch : Nat → List Nat} {n L : Nat} {Q : Flow → Shared → Prop} (B : Base P mg mb s.heap) (hh : A.handled = none) (hd : A.depth + 60 < recursionLimit) (hu : A.units + 100 < cLine)
    (ok : LawOk ps ws ch n) {h : Heap} {gs : Array GenState} {d : Drawn} {k : Nat} {os : OsState} {m : Str → Option Value} {p q W H V Sh Ap : Addr}
    (F : InF (.of s s.heap fun _ => False) (callEnvC (fdAt 116) L 116) m h gs d os) (LM : LawM m p q W H V Sh Ap n) (LH : LawH ps ws ch n h p q W H V)
    (tS : TabAt h Sh n (shr ws ch)) (tA : TabAt h Ap n (apt ws ch n)) (hQ : ∀ s', Mv s s' → Q (.ret (.bool true)) s') :
    wpAny (model prog w) A (execs ((bodyAt 116).drop 9) (callEnvC (fdAt 116) L 116)) Q E ⟨h, gs, d, k, os⟩ := by
  have h8 := ok.max
  have h2 := ok.two
  have tkeep : ∀ {h h' : Heap} {T : Addr} {M : Nat → Nat → Int}, TabAt h T n M → SeqK h h' → TabAt h' T n M := fun x k => let ⟨its, a, b, c⟩ := x; ⟨its, k.list a, b, fun i hi => let ⟨a, vs, d, e, f⟩ := c i hi; ⟨a, vs, d, k.list e, f⟩⟩
  obtain ⟨mp, mq, ⟨tc, mc⟩, mW, mH, mV, mS, mA⟩ := id LM
  have F := F.may fun _ => False
  -- the check of distances
  refine execs_cut (fun s' => ∃ m', InF ((Rf.of s s.heap fun _ => False).may h fun _ => False) (callEnvC (fdAt 116) L 116) m' s'.heap s'.gens s'.drawn s'.os ∧ LawM m' p q W H V Sh Ap n ∧ SeqK h s'.heap) ?_ ?_
  · refine for_loop (r := (Rf.of s s.heap fun _ => False).may h fun _ => False) (J := fun i m h' => LawM m p q W H V Sh Ap n ∧ SeqK h h') (call1 (InF.built F B B.range'.1 B.range'.2 ⟨.inr ⟨_, rfl⟩, InF.ld F (by walk_at "nm") ?_⟩)) ?_
    · refine x_range1 hh (by omega) fun X h₁ k₁ K₁ hsrc => ?_
      refine ⟨_, _, _, _, F.grow K₁, hsrc, (fun b hb => hb.elim), (fun b hb => nomatch hb), ⟨LM, K₁.seq⟩, ?_, ?_⟩
      · rintro i v m h' gs d tk os E' hi ⟨_, ti, rfl⟩ F ⟨LM, Kh⟩
        rw [Int.zero_add] at F
        have LM₁ : LawM (upd m (Str.ofString "one") (.int i ti)) p q W H V Sh Ap n := LM.upd
        obtain ⟨mp, mq, ⟨tc, mc⟩, mW, mH, mV, mS, mA⟩ := id LM
        refine wpAny_execs_cons (for_loop (r := ((Rf.of s s.heap fun _ => False).may h fun _ => False).now h') (J := fun j m h' => LawM m p q W H V Sh Ap n ∧ SeqK h h' ∧ m (Str.ofString "one") = some (.int i ti)) (call1 (InF.built F B B.range'.1 B.range'.2 ⟨.inr ⟨_, rfl⟩, InF.ld F (by walk_at "nm") ?_⟩)) ?_)
        · refine x_range1 hh (by omega) fun X h₁ k₁ K₁ hsrc => ?_
          refine ⟨_, _, _, _, F.grow K₁, hsrc, (fun b hb => hb.elim), (fun b hb => nomatch hb), ⟨LM₁, Kh.trans K₁.seq, by walk_at "nm"⟩, ?_, ?_⟩
          · rintro j v m h' gs d tk os E' hj ⟨_, tj, rfl⟩ F ⟨LM, Kh, h1⟩
            rw [Int.zero_add] at F
            have LM₁ : LawM (upd m (Str.ofString "other") (.int j tj)) p q W H V Sh Ap n := LM.upd
            obtain ⟨mp, mq, ⟨tc, mc⟩, mW, mH, mV, mS, mA⟩ := id LM
            have tA := tkeep tA Kh
            have tS := tkeep tS Kh
            obtain ⟨hv, hHl, hHi⟩ := (LH.keep Kh).heights
            refine wpAny_execs_cons (wpAny_If (wpAny_isTrue_Compare1 ?_))
            refine x_tcell F tA (by walk_at "nm") (by walk_at "nm") (by walk_at "nm") (i := i) (j := j) rfl rfl hi hj (by omega) fun t₁ => ?_
            refine wpAny_BinOp (wpAny_BinOp ?_)
            refine x_icell F hHl hHi (by walk_at "nm") (by walk_at "nm") (i := i) (v := hgt ws ch i) rfl (by simp [hi]) (by omega) fun t₂ => ?_
            refine x_icell F hHl hHi (by walk_at "nm") (by walk_at "nm") (i := j) (v := hgt ws ch j) rfl (by simp [hj]) (by omega) fun t₃ => ?_
            refine x_add fun t₄ z => wpAny_BinOp (x_int fun t₅ z => ?_)
            refine x_tcell F tS (by walk_at "nm") (by walk_at "nm") (by walk_at "nm") (i := i) (j := j) rfl rfl hi hj (by omega) fun t₆ => ?_
            refine x_mul (mulOk_of' (by decide)) fun t₇ z => x_sub fun t₈ z => PySem.P.ne_int (wpAny_truthy_bool ?_)
            rw [ok.eq i j hi hj]
            simp only [bne_self_eq_false, Bool.false_eq_true, if_false]
            exact wpAny_execs_nil (wpAny_execs_nil ⟨_, F, LM₁, Kh, by walk_at "nm"⟩)
          · rintro m h' gs d tk os F ⟨LM, Kh, _⟩
            exact wpAny_execs_nil ⟨m, F, LM, Kh⟩
        · rintro i m h₁ h₂ ⟨LM, Kh, x⟩ K
          exact ⟨LM, Kh.trans K, x⟩
      · rintro m h' gs d tk os F ⟨LM, Kh⟩
        exact ⟨rfl, m, F, LM, Kh⟩
    · rintro i m h₁ h₂ ⟨LM, Kh⟩ K
      exact ⟨LM, Kh.trans K⟩
  · rintro ⟨h₁, gs, d, k₁, os⟩ ⟨m₁, F₁, LM₁, K₁⟩
    -- product
    refine wpAny_execs_cons (wpAny_Assign_Name (x_int fun t₁ z => InF.st F₁ fun h₂ k₂ F₂ S₂ _ => ?_))
    have LM₂ : LawM (upd m₁ (Str.ofString "product") (.int 1 t₁)) p q W H V Sh Ap n := LM₁.upd
    have K₂ := K₁.trans S₂
    refine execs_cut (fun s' => ∃ m' t, InF ((Rf.of s s.heap fun _ => False).may h fun _ => False) (callEnvC (fdAt 116) L 116) m' s'.heap s'.gens s'.drawn s'.os ∧ LawM m' p q W H V Sh Ap n ∧ SeqK h s'.heap ∧ m' (Str.ofString "product") = some (.int (prodOf ws) t)) ?_ ?_
    · obtain ⟨mp, mq, ⟨tc, mc⟩, mW, mH, mV, mS, mA⟩ := id LM₂
      obtain ⟨wv, hwl, hwi⟩ := (LH.keep K₂).worths
      have hwn : wv.length = n := by rw [hwi.length, ok.wlen]
      refine for_loop (r := (Rf.of s s.heap fun _ => False).may h fun _ => False) (J := fun i m h' => LawM m p q W H V Sh Ap n ∧ SeqK h h' ∧ ∃ t, m (Str.ofString "product") = some (.int (((ws.drop 1).take i).foldl (· * ·) 1) t)) (x_sliceFrom (i := 1) (InF.ld F₂ (by walk_at "nm") ?_)) ?_
      · refine ⟨_, _, rfl, hwl.isList, by simp [hwn]; omega, fun T h₃ k₃ K₃ hT hTl => ?_⟩
        refine ⟨_, _, _, _, F₂.grow K₃, list_src hh hTl.isList, (fun b hb => hb.elim), ?_, ⟨LM₂, K₂.trans K₃.seq, t₁, by have := (up_self : upd m₁ (Str.ofString "product") (.int 1 t₁) (Str.ofString "product") = some (.int 1 t₁)); exact this⟩, ?_, ?_⟩
        · intro b hb
          rw [List.mem_singleton.mp hb]
          exact ⟨id, plain_seq hTl⟩
        · rintro i v m h' gs d tk os E' hi hPv F ⟨LM, Kh, tp, hpr⟩
          have hwd := hwi.drop 1
          have hPv' : (wv.drop 1)[i]? = some v := by simpa using hPv
          obtain ⟨x, tx, rfl, hx⟩ := hwd.at i v hPv'
          have hxs : x.natAbs < 2 ^ 63 := by
            have hx' : ws[1 + i]? = some x := by rw [Nat.add_comm]; simpa using hx
            have hlt : 1 + i < n := by
              rcases Nat.lt_or_ge (1 + i) ws.length with h | h
              · rw [← ok.wlen]; exact h
              · rw [List.getElem?_eq_none h] at hx'; cases hx'
            have h9 := ok.wsmall _ hlt
            rw [worthAt_get ok.wlen hlt] at hx'
            rw [← Option.some.inj hx']; omega
          refine wpAny_execs_cons (wpAny_Assign_Name (wpAny_BinOp ?_))
          walk_at "ld"
          walk_at "ld"
          refine x_mul (mulOk_of hxs) fun t₄ z => InF.st F fun h₅ k₅ F₅ S₅ _ => wpAny_execs_nil ⟨_, F₅, (LM.upd (y := Str.ofString "worth")).upd, Kh.trans S₅, t₄, ?_⟩
          rw [foldl_mul_snoc _ _ _ hx]
          walk_at "nm"
        · rintro m h' gs d tk os F ⟨LM, Kh, tp, hpr⟩
          refine ⟨rfl, m, tp, F, LM, Kh, ?_⟩
          rw [hpr]
          have : ((ws.drop 1).take (wv.toArray.toList.drop 1).toArray.size) = ws.drop 1 := by
            apply List.take_of_length_le
            simp [hwn, ok.wlen]
          rw [this]; rfl
      · rintro i m h₁ h₂ ⟨LM, Kh, x⟩ K
        exact ⟨LM, Kh.trans K, x⟩
    · rintro ⟨h₃, gs, d, k₃, os⟩ ⟨m₃, tp, F₃, LM₃, K₃, hpr⟩
      obtain ⟨mp, mq, ⟨tc, mc⟩, mW, mH, mV, mS, mA⟩ := id LM₃
      -- sign
      refine execs_cut (fun s' => ∃ m' t, InF ((Rf.of s s.heap fun _ => False).may h fun _ => False) (callEnvC (fdAt 116) L 116) m' s'.heap s'.gens s'.drawn s'.os ∧ LawM m' p q W H V Sh Ap n ∧ SeqK h s'.heap ∧ m' (Str.ofString "product") = some (.int (prodOf ws) tp) ∧ m' (Str.ofString "sign") = some (.int (sgnOf n) t)) ?_ ?_
      · refine wpAny_Assign_Name (wpAny_IfExp (wpAny_isTrue_Compare1 (wpAny_BinOp ?_)))
        walk_at "ld"
        refine x_int fun t z => x_mod (by decide) fun t z => x_int fun t z => PySem.P.eq_int (wpAny_truthy_bool ?_)
        have e : ((n : Int).fmod 2 == 0) = decide (n % 2 = 0) := by
          rw [Int.fmod_eq_emod_of_nonneg _ (by decide), Bool.eq_iff_iff, beq_iff_eq, decide_eq_true_eq]; omega
        rw [e]
        by_cases h0 : n % 2 = 0
        · rw [if_pos (by simpa using h0)]
          refine wpAny_UnaryOp (x_int fun t z => x_neg fun t z => ?_)
          have : sgnOf n = -1 := by unfold sgnOf; rw [if_pos h0]
          rw [← this]
          exact InF.st F₃ fun h₄ k₄ F₄ S₄ _ => ⟨rfl, _, t, F₄, LM₃.upd, K₃.trans S₄, by walk_at "nm", by walk_at "nm"⟩
        · rw [if_neg (by simpa using h0)]
          refine x_int fun t z => ?_
          have : sgnOf n = 1 := by unfold sgnOf; rw [if_neg h0]
          rw [← this]
          exact InF.st F₃ fun h₄ k₄ F₄ S₄ _ => ⟨rfl, _, t, F₄, LM₃.upd, K₃.trans S₄, by walk_at "nm", by walk_at "nm"⟩
      rintro ⟨h₄, gs, d, k₄, os⟩ ⟨m₄, tsg, F₄, LM₄, K₄, hpr, hsm⟩
      obtain ⟨mp, mq, ⟨tc, mc⟩, mW, mH, mV, mS, mA⟩ := id LM₄
      have hsg : (sgnOf n).natAbs = 1 := by unfold sgnOf; split <;> rfl
      -- _law_determinant(shared)
      have B₄ := B.keeps F₄.keep
      refine wpAny_execs_cons (wpAny_If (wpAny_isTrue_Compare1 (callF1 (F₄.glob B (B.gl (v := .ref 111) (by kernel_rfl)) ?_))))
      refine ⟨111, rfl, ?_⟩
      walk_at "ld"
      refine ⟨⟨_, _, B₄.fn111, rfl⟩, ?_⟩
      refine det_spec (s := ⟨h₄, gs, d, _, os⟩) B₄ hh (by omega) (by omega) (tkeep tS K₄) (by omega) ok.det1 fun s₅ t₅ Mv₅ => ?_
      obtain ⟨h₅, gs₅, d₅, k₅, os₅⟩ := s₅
      have F₅ : InF ((Rf.of s s.heap fun _ => False).may h fun _ => False) (callEnvC (fdAt 116) L 116) m₄ h₅ gs₅ d₅ os₅ := InF.aft Mv₅ F₄
      have K₅ := K₄.trans Mv₅.keep.seq
      have K₅ : SeqK h h₅ := K₅
      obtain ⟨wv, hwl, hwi⟩ := (LH.keep K₅).worths
      have hwn : wv.length = n := by rw [hwi.length, ok.wlen]
      obtain ⟨tx, htx⟩ := hwi.get 0 _ (worthAt_get ok.wlen (by omega))
      refine wpAny_BinOp (subList ?_)
      walk_at "ld"
      refine x_int fun t₆ z => ⟨_, _, _, _, .int (worthAt ws 0) tx, rfl, rfl, hwl.isList, by decide, by decide, by simpa using htx, ?_⟩
      walk_at "ld"
      have hw0 := ok.wsmall 0 (by omega)
      refine x_mul (mulOk_of' (by omega)) fun t₇ z => PySem.P.ne_int (wpAny_truthy_bool ?_)
      simp only [bne_self_eq_false, Bool.false_eq_true, if_false]
      -- return
      refine wpAny_execs_nil (wpAny_execs_cons (wpAny_Return_some (wpAny_Compare1 (callF1 (F₅.glob B (B.gl (v := .ref 111) (by kernel_rfl)) ?_)))))
      refine ⟨111, rfl, ?_⟩
      walk_at "ld"
      have B₅ := B.keeps F₅.keep
      refine ⟨⟨_, _, B₅.fn111, rfl⟩, ?_⟩
      refine det_spec (s := ⟨h₅, gs₅, d₅, _, os₅⟩) B₅ hh (by omega) (by omega) (tkeep tA K₅) (by omega) ok.det2 fun s₆ t₆ Mv₆ => ?_
      obtain ⟨h₆, gs₆, d₆, k₆, os₆⟩ := s₆
      have F₆ : InF ((Rf.of s s.heap fun _ => False).may h fun _ => False) (callEnvC (fdAt 116) L 116) m₄ h₆ gs₆ d₆ os₆ := InF.aft (t := ⟨h₅, gs₅, d₅, _, os₅⟩) Mv₆ F₅
      have K₆ := K₅.trans Mv₆.keep.seq
      have K₆ : SeqK h h₆ := K₆
      obtain ⟨wv, hwl, hwi⟩ := (LH.keep K₆).worths
      have hwn : wv.length = n := by rw [hwi.length, ok.wlen]
      refine wpAny_BinOp (wpAny_BinOp (wpAny_BinOp ?_))
      walk_at "ld"
      refine wpAny_BinOp (x_int fun t z => wpAny_BinOp ?_)
      walk_at "ld"
      refine x_int fun t z => x_sub fun t z => ?_
      rw [show ((n : Int) - 2) = ((n - 2 : Nat) : Int) by omega]
      refine x_pow2 (by omega) fun t z => x_mul (mulOk_of' (by omega)) fun t z => ?_
      have hpw : (2 ^ (n - 2) : Int).natAbs ≤ 64 := by
        have : n = 2 ∨ n = 3 ∨ n = 4 ∨ n = 5 ∨ n = 6 ∨ n = 7 ∨ n = 8 := by omega
        rcases this with rfl | rfl | rfl | rfl | rfl | rfl | rfl <;> decide
      walk_at "ld"
      refine x_mul (mulOk_of' (by rw [Int.natAbs_mul, hsg]; omega)) fun t z => ?_
      refine call1 (InF.built F₆ B B.sum'.1 B.sum'.2 ⟨.inl ⟨_, rfl⟩, x_sliceFrom (i := 1) (InF.ld F₆ (by walk_at "nm") ?_)⟩)
      refine ⟨_, _, rfl, hwl.isList, by simp [hwn]; omega, fun T h₇ k₇ K₇ hT hTl => ?_⟩
      have hsum : ((ws.drop 1).sum).natAbs < 2 ^ 63 := by
        have key : ∀ l : List Int, (∀ x ∈ l, x.natAbs ≤ 9) → l.sum.natAbs ≤ 9 * l.length := by
          intro l
          induction l with
          | nil => intro _; simp
          | cons x r ih =>
            intro hx
            have h1 := hx x List.mem_cons_self
            have h2 := ih fun y hy => hx y (List.mem_cons_of_mem _ hy)
            rw [List.sum_cons, List.length_cons]; omega
        have := key (ws.drop 1) fun x hx => by
          obtain ⟨i, hi, rfl⟩ := List.mem_iff_getElem.mp hx
          rw [List.length_drop, ok.wlen] at hi
          have h9 := ok.wsmall (1 + i) (by omega)
          have e := worthAt_get ok.wlen (show 1 + i < n by omega)
          rw [List.getElem_drop]
          rw [List.getElem?_eq_getElem (by rw [ok.wlen]; omega)] at e
          rw [Option.some.inj e]; exact h9
        rw [List.length_drop, ok.wlen] at this
        omega
      have hls : h₇.IsList T (wv.drop 1).toArray := by simpa using hTl.isList
      refine x_sum hh hls (hwi.drop 1) fun t h₈ k₈ K₈ => x_mul (mulOk_of hsum) fun t z => PySem.P.eq_int ?_
      simp only [beq_self_eq_true]
      have F₈ := (F₆.grow K₇).grow K₈
      exact hQ _ ⟨F₈.keep, F₈.gens, F₈.bare, F₈.os, F₈.drawn⟩
end

end

section
local macro_rules | `(tactic| walk_at "nm") => `(tactic| first
  | (with_reducible exact up_self)
  | (with_reducible refine up_ne ?_ (by decide +kernel); walk_at "nm")
  | (with_reducible refine cMap_free ?_ (by kernel_rfl); walk_at "nm")
  | (with_reducible assumption)
  | (with_reducible exact rfl))
local macro_rules | `(tactic| walk_at "ld") => `(tactic| refine InF.ld (by assumption) (by walk_at "nm") ?_)
local macro_rules | `(tactic| walk_at "ldn") => `(tactic| refine InF.ldn (by assumption) (by walk_at "nm") ?_)
section
variable {prog : Program} {w : World} {A : Around} {E : Value → Shared → Prop} {P : Params} {mg mb : Str → Option Value} {s : Shared}
theorem law_spec {sc : Addr} {vs : List Value} {ns : List Int} {ch : Nat → List Nat} {n : Nat} {Q : Value → Shared → Prop} (B : Base P mg mb s.heap) (hh : A.handled = none) (hd : A.depth + 70 < recursionLimit) (hu : A.units + 110 < cLine)
    (hsc : s.heap.IsList sc vs.toArray) (hi : IntsAre vs ns) (hlen : ns.length ≤ 63) (ok : LawOk (tree ns).1 (tree ns).2 ch n) (hQ : ∀ s', Mv s s' → Q (.bool true) s') :
    wpAny (model prog w) A (call (.ref 116) [.ref sc]) Q E s := by
  refine call_own (binds := [(Str.ofString "script", .ref sc)]) B (by omega) B.fn116 B.cd116 (by kernel_rfl) (by kernel_rfl) (by intro _; kernel_rfl) fun L s₁ hL F => ?_
  simp only [argM] at F
  obtain ⟨h₁, gs, d, k₁, os⟩ := s₁
  have hd' : (A.deeper (callEnvC (fdAt 116) L 116)).depth + 60 < recursionLimit := by show A.depth + 1 + 60 < _; omega
  have hu' : (A.deeper (callEnvC (fdAt 116) L 116)).units + 100 < cLine := by show A.units + 3 + 100 < _; omega
  exact law_head (A := A.deeper (callEnvC (fdAt 116) L 116)) B hh hd' hu' hsc hi hlen ok F (by walk_at "nm") fun m h gs d k os p q W H V Sh Ap F LM LH tS tA => law_tail (A := A.deeper (callEnvC (fdAt 116) L 116)) B hh hd' hu' ok F LM LH tS tA hQ
end
theorem top (plain : ∀ ns : List Int, ∃ ch n, LawOk (tree ns).1 (tree ns).2 ch n) : PySem.Challenge.rw_in0148_01.Holds := by
  refine Mine.hd ?_
  intro w s₀ s₁ mg mb G Y a o pm cd doc dV kV ho hdata hcode hdf hmg hgens args vals as hpre hlay hrd hwl hlo
  clear hdata hcode hdf
  have K := kIn_of Y
  have ea : a = 116 := by
    refine Ground.open G fun T TB TD TE TW => ?_
    have e := mg_of (n := Str.ofString "law") K T.g (show nsIn (Mine.hd.heap_39 w.params) mainGlobals (Str.ofString "law") = some (some (.ref 116)) by kernel_rfl)
    rw [show mg (Str.ofString "law") = some (.ref a) from hmg] at e
    cases e; rfl
  subst ea
  refine Ground.open G fun T TB TD TE TW => ?_
  have B : Base w.params mg mb s₁.heap := ⟨T.g, T.b, T.nolimit, T.builtins, K⟩
  clear Y ho hmg G
  wrow_args hpre hlay hrd hwl hlo
  rename_i ns z1 z2 z3 z4 z5 z6 z7 sc vs z8 hsc z9 z10 z11 hI z12 hcond z13
  have hlen : ns.length ≤ 63 := by omega
  obtain ⟨ch, n, ok⟩ := plain ns
  refine law_spec (A := callerA) B rfl (by decide +kernel) (by decide +kernel) hsc hI hlen ok fun s' mv => ?_
  refine ⟨.inl ⟨_, _, [], rfl, fun _ => rfl, ReadsW.bool true, ?_, fun _ => ⟨List.nodup_nil, fun _ hm => (nomatch hm)⟩⟩, .of_keep mv.keep, mv.os, mv.bare (.of_eq hgens)⟩
  first | rfl | wrow_post

end

section
local macro_rules | `(tactic| walk_at "nm") => `(tactic| first
  | (with_reducible exact up_self)
  | (with_reducible refine up_ne ?_ (by decide +kernel); walk_at "nm")
  | (with_reducible refine cMap_free ?_ (by kernel_rfl); walk_at "nm")
  | (with_reducible assumption)
  | (with_reducible exact rfl))
local macro_rules | `(tactic| walk_at "ld") => `(tactic| refine InF.ld (by assumption) (by walk_at "nm") ?_)
local macro_rules | `(tactic| walk_at "ldn") => `(tactic| refine InF.ldn (by assumption) (by walk_at "nm") ?_)
/-- sums from k on, c long -/
def sm (f : Nat → Int) : Nat → Nat → Int
  | _, 0 => 0
  | k, c + 1 => f k + sm f (k + 1) c
def pr (f : Nat → Int) : Nat → Nat → Int
  | _, 0 => 1
  | k, c + 1 => f k * pr f (k + 1) c
theorem sm_congr {f g : Nat → Int} : ∀ {c k : Nat}, (∀ m, k ≤ m → m < k + c → f m = g m) → sm f k c = sm g k c
  | 0, _, _ => rfl
  | c + 1, k, h => by rw [sm, sm, h k (Nat.le_refl _) (by omega), sm_congr fun m h1 h2 => h m (by omega) (by omega)]
theorem sm_zero {f : Nat → Int} : ∀ {c k : Nat}, (∀ m, k ≤ m → m < k + c → f m = 0) → sm f k c = 0
  | 0, _, _ => rfl
  | c + 1, k, h => by rw [sm, h k (Nat.le_refl _) (by omega), sm_zero fun m h1 h2 => h m (by omega) (by omega)]; rfl
theorem sm_add (f g : Nat → Int) : ∀ c k : Nat, sm (fun m => f m + g m) k c = sm f k c + sm g k c
  | 0, _ => rfl
  | c + 1, k => by rw [sm, sm, sm, sm_add f g c (k + 1)]; omega
theorem sm_mul (a : Int) (f : Nat → Int) : ∀ c k : Nat, sm (fun m => a * f m) k c = a * sm f k c
  | 0, _ => by simp [sm]
  | c + 1, k => by rw [sm, sm, sm_mul a f c (k + 1), Int.mul_add]
theorem sm_bound {f : Nat → Int} {B : Nat} : ∀ {c k : Nat}, (∀ m, k ≤ m → m < k + c → (f m).natAbs ≤ B) → (sm f k c).natAbs ≤ c * B
  | 0, _, _ => by simp [sm]
  | c + 1, k, h => by
    have h1 := h k (Nat.le_refl _) (by omega)
    have h2 := sm_bound (c := c) (k := k + 1) fun m h1 h2 => h m (by omega) (by omega)
    rw [sm, Nat.succ_mul]; omega

theorem DetRun.congr {n k : Nat} {M : Nat → Nat → Int} {s b r : Int} (h : DetRun n k M s b r) : ∀ {M' : Nat → Nat → Int}, (∀ i j, k ≤ i → i < n → k ≤ j → j < n → M i j = M' i j) → DetRun n k M' s b r := by
  induction h with
  | done => intro M' _; exact .done
  | zero hk h0 => intro M' e; exact .zero hk fun i h1 h2 => by rw [← e i _ h1 h2 (Nat.le_refl _) hk]; exact h0 i h1 h2
  | @step k M s b r f h1 h2 h3 h4 h5 h6 h7 _ ih =>
    intro M' e
    have hk : k < n := by omega
    have e1 := e f k h1 h2 (Nat.le_refl _) hk
    refine .step f h1 h2 (by rw [← e1]; exact h3) (fun i a b => by rw [← e i k a (by omega) (Nat.le_refl _) hk]; exact h4 i a b) (fun i j a b c d => by rw [← e i j a b c d]; exact h5 i j a b c d) h6 h7 ?_
    rw [← e1]
    have sw : ∀ i, k ≤ i → i < n → k ≤ swapN k f i ∧ swapN k f i < n := fun i a b => by unfold swapN; split <;> (try split) <;> omega
    refine ih fun i j hi hin hj hjn => ?_
    unfold stepM
    rw [if_pos (by omega), if_pos (by omega)]
    obtain ⟨a1, a2⟩ := sw i (by omega) hin
    obtain ⟨b1, b2⟩ := sw k (by omega) hk
    dsimp only
    rw [e _ _ a1 a2 (by omega) hjn, e _ _ b1 b2 (Nat.le_refl _) hk, e _ _ a1 a2 (Nat.le_refl _) hk, e _ _ b1 b2 (by omega) hjn]
theorem swapN_self (k i : Nat) : swapN k k i = i := by unfold swapN; split <;> (try split) <;> omega
/-- a step whose pivot stands already -/
theorem DetRun.step0 {n k : Nat} {M M' : Nat → Nat → Int} {s b r : Int} (hk : k < n) (h3 : M k k ≠ 0) (h5 : ∀ i j, k ≤ i → i < n → k ≤ j → j < n → (M i j).natAbs < 2 ^ 63) (h6 : b ≠ 0) (h7 : b.natAbs < 2 ^ 63)
    (e : ∀ i j, k < i → i < n → k < j → j < n → M i j * M k k - M i k * M k j = b * M' i j) (h : DetRun n (k + 1) M' s (M k k) r) : DetRun n k M s b r := by
  refine .step k (Nat.le_refl _) hk h3 (fun i a b => absurd b (by omega)) h5 h6 h7 ?_
  rw [if_pos rfl]
  refine h.congr fun i j hi hin hj hjn => ?_
  unfold stepM
  rw [if_pos (by omega)]
  simp only [swapN_self]
  rw [e i j (by omega) hin (by omega) hjn, Int.mul_fdiv_cancel_left _ h6]
/-- a step that takes the next row -/
theorem DetRun.step1 {n k : Nat} {M M' : Nat → Nat → Int} {s b r : Int} (hk : k + 1 < n) (h0 : M k k = 0) (h3 : M (k + 1) k ≠ 0) (h5 : ∀ i j, k ≤ i → i < n → k ≤ j → j < n → (M i j).natAbs < 2 ^ 63) (h6 : b ≠ 0) (h7 : b.natAbs < 2 ^ 63)
    (e1 : ∀ j, k < j → j < n → M k j * M (k + 1) k = b * M' (k + 1) j)
    (e : ∀ i j, k + 1 < i → i < n → k < j → j < n → M i j * M (k + 1) k - M i k * M (k + 1) j = b * M' i j) (h : DetRun n (k + 1) M' (-s) (M (k + 1) k) r) : DetRun n k M s b r := by
  refine .step (k + 1) (Nat.le_succ _) hk h3 (fun i a b => by rw [show i = k by omega]; exact h0) h5 h6 h7 ?_
  rw [if_neg (by omega)]
  refine h.congr fun i j hi hin hj hjn => ?_
  unfold stepM
  rw [if_pos (by omega)]
  have s0 : swapN k (k + 1) k = k + 1 := by unfold swapN; rw [if_pos rfl]
  simp only [s0]
  by_cases hi1 : i = k + 1
  · subst hi1
    have s1 : swapN k (k + 1) (k + 1) = k := by unfold swapN; rw [if_neg (by omega), if_pos rfl]
    rw [s1, h0, Int.zero_mul, Int.sub_zero, e1 j (by omega) hjn, Int.mul_fdiv_cancel_left _ h6]
  · have s1 : swapN k (k + 1) i = i := by unfold swapN; rw [if_neg (by omega), if_neg (by omega)]
    rw [s1, e i j (by omega) hin (by omega) hjn, Int.mul_fdiv_cancel_left _ h6]

/-- the tree as a matrix: 0 and 1, ones down the middle, nothing right of it -/
structure Low (n : Nat) (Lm : Nat → Nat → Int) (w : Nat → Int) : Prop where
  bit : ∀ i k, Lm i k = 0 ∨ Lm i k = 1
  diag : ∀ i, i < n → Lm i i = 1
  up : ∀ i k, i < k → Lm i k = 0
  root : ∀ i, i < n → Lm i 0 = 1
  wne : ∀ k, k < n → w k ≠ 0
  wle : ∀ k, k < n → (w k).natAbs ≤ 9
def SS (Lm : Nat → Nat → Int) (w : Nat → Int) (k c i j : Nat) : Int := sm (fun m => Lm i m * (w m * Lm j m)) k c
def dd (Lm : Nat → Nat → Int) (w : Nat → Int) (k c i : Nat) : Int := sm (fun m => Lm i m * w m) k c
section
variable {n : Nat} {Lm : Nat → Nat → Int} {w : Nat → Int}
theorem SS_succ (k c i j : Nat) : SS Lm w k (c + 1) i j = Lm i k * (w k * Lm j k) + SS Lm w (k + 1) c i j := rfl
theorem dd_succ (k c i : Nat) : dd Lm w k (c + 1) i = Lm i k * w k + dd Lm w (k + 1) c i := rfl
theorem SS_left (X : Low n Lm w) {k c i j : Nat} (h : i < k) : SS Lm w k c i j = 0 := sm_zero fun m h1 _ => by rw [X.up i m (by omega)]; simp
theorem SS_right (X : Low n Lm w) {k c i j : Nat} (h : j < k) : SS Lm w k c i j = 0 := sm_zero fun m h1 _ => by rw [X.up j m (by omega)]; simp
theorem dd_zero (X : Low n Lm w) {k c i : Nat} (h : i < k) : dd Lm w k c i = 0 := sm_zero fun m h1 _ => by rw [X.up i m (by omega)]; simp
theorem bit_le (X : Low n Lm w) (i k : Nat) : (Lm i k).natAbs ≤ 1 := by rcases X.bit i k with h | h <;> rw [h] <;> decide
theorem SS_bound (X : Low n Lm w) {k c : Nat} (h : k + c ≤ n) (h8 : n ≤ 8) (i j : Nat) : (SS Lm w k c i j).natAbs ≤ 72 := by
  have h1 := sm_bound (f := fun m => Lm i m * (w m * Lm j m)) (B := 9) (c := c) (k := k) fun m _ h2 => by
    rw [Int.natAbs_mul, Int.natAbs_mul]
    have a := bit_le X i m
    have b := bit_le X j m
    have d := X.wle m (by omega)
    calc (Lm i m).natAbs * ((w m).natAbs * (Lm j m).natAbs) ≤ 1 * (9 * 1) := Nat.mul_le_mul a (Nat.mul_le_mul d b)
      _ = 9 := rfl
  unfold SS; omega
theorem dd_bound (X : Low n Lm w) {k c : Nat} (h : k + c ≤ n) (h8 : n ≤ 8) (i : Nat) : (dd Lm w k c i).natAbs ≤ 72 := by
  have h1 := sm_bound (f := fun m => Lm i m * w m) (B := 9) (c := c) (k := k) fun m _ h2 => by
    rw [Int.natAbs_mul]
    have a := bit_le X i m
    have d := X.wle m (by omega)
    calc (Lm i m).natAbs * (w m).natAbs ≤ 1 * 9 := Nat.mul_le_mul a d
      _ = 9 := rfl
  unfold dd; omega

/-- the first table: no row ever moves -/
theorem det_shared (X : Low n Lm w) (h8 : n ≤ 8) : ∀ (c k : Nat) (p : Int), k + c = n → p ≠ 0 → p.natAbs ≤ 9 ^ k → DetRun n k (fun i j => p * SS Lm w k c i j) 1 p (p * pr w k c)
  | 0, k, p, e, _, _ => by
    have : k = n := by omega
    subst this
    have := DetRun.done (n := k) (M := fun i j => p * SS Lm w k 0 i j) (s := 1) (b := p)
    rw [show p * pr w k 0 = 1 * p by simp [pr]]
    exact this
  | c + 1, k, p, e, hp, hb => by
    have hk : k < n := by omega
    have hw := X.wne k hk
    have hkk : SS Lm w k (c + 1) k k = w k := by rw [SS_succ, SS_left X (by omega), X.diag k hk]; simp
    have hpw : p * w k ≠ 0 := Int.mul_ne_zero hp hw
    have hb8 : p.natAbs ≤ 9 ^ 8 := Nat.le_trans hb (Nat.pow_le_pow_right (by decide) (by omega))
    have hpb : (p * w k).natAbs ≤ 9 ^ (k + 1) := by
      rw [Int.natAbs_mul, Nat.pow_succ]; exact Nat.mul_le_mul hb (X.wle k hk)
    have ih := det_shared X h8 c (k + 1) (p * w k) (by omega) hpw hpb
    refine DetRun.step0 (M' := fun i j => p * w k * SS Lm w (k + 1) c i j) hk (by show p * SS Lm w k (c + 1) k k ≠ 0; rw [hkk]; exact hpw) (fun i j _ _ _ _ => ?_) hp ?_ (fun i j hi hin hj hjn => ?_) ?_
    · show (p * SS Lm w k (c + 1) i j).natAbs < _
      rw [Int.natAbs_mul]
      have := SS_bound X (k := k) (c := c + 1) (by omega) h8 i j
      have : p.natAbs * (SS Lm w k (c + 1) i j).natAbs ≤ 9 ^ 8 * 72 := Nat.mul_le_mul hb8 this
      omega
    · have : (9 : Nat) ^ 8 < 2 ^ 63 := by decide
      omega
    · have e1 : SS Lm w k (c + 1) i k = Lm i k * w k := by rw [SS_succ, SS_right X (by omega), X.diag k hk]; simp
      have e2 : SS Lm w k (c + 1) k j = w k * Lm j k := by rw [SS_succ, SS_left X (by omega), X.diag k hk]; simp
      show p * SS Lm w k (c + 1) i j * (p * SS Lm w k (c + 1) k k) - p * SS Lm w k (c + 1) i k * (p * SS Lm w k (c + 1) k j) = p * (p * w k * SS Lm w (k + 1) c i j)
      rw [hkk, e1, e2, SS_succ]
      grind
    · show DetRun n (k + 1) _ 1 (p * SS Lm w k (c + 1) k k) _
      rw [hkk, show p * pr w k (c + 1) = p * w k * pr w (k + 1) c by rw [pr, Int.mul_assoc]]
      exact ih
end

end

section
local macro_rules | `(tactic| walk_at "nm") => `(tactic| first
  | (with_reducible exact up_self)
  | (with_reducible refine up_ne ?_ (by decide +kernel); walk_at "nm")
  | (with_reducible refine cMap_free ?_ (by kernel_rfl); walk_at "nm")
  | (with_reducible assumption)
  | (with_reducible exact rfl))
local macro_rules | `(tactic| walk_at "ld") => `(tactic| refine InF.ld (by assumption) (by walk_at "nm") ?_)
local macro_rules | `(tactic| walk_at "ldn") => `(tactic| refine InF.ldn (by assumption) (by walk_at "nm") ?_)
theorem nb_mul {a b : Int} {A B : Nat} (ha : a.natAbs ≤ A) (hb : b.natAbs ≤ B) : (a * b).natAbs ≤ A * B := by rw [Int.natAbs_mul]; exact Nat.mul_le_mul ha hb
theorem nb_add {a b : Int} {A B : Nat} (ha : a.natAbs ≤ A) (hb : b.natAbs ≤ B) : (a + b).natAbs ≤ A + B := by omega
theorem nb_sub {a b : Int} {A B : Nat} (ha : a.natAbs ≤ A) (hb : b.natAbs ≤ B) : (a - b).natAbs ≤ A + B := by omega
theorem nb_neg {a : Int} {A : Nat} (ha : a.natAbs ≤ A) : (-a).natAbs ≤ A := by omega
section
variable {n : Nat} {Lm : Nat → Nat → Int} {w : Nat → Int}
/-- the second table between the turns -/
def nrm (Lm : Nat → Nat → Int) (w : Nat → Int) (k c : Nat) (σ e t : Int) : Nat → Nat → Int := fun i j => σ * 2 * e * (t * SS Lm w k c i j + dd Lm w k c i * dd Lm w k c j)
/-- and in the odd turn -/
def odd (Lm : Nat → Nat → Int) (w : Nat → Int) (k c : Nat) (σ e : Int) : Nat → Nat → Int := fun i j => if i = k + 1 then 4 * σ * e * w k * (w (k + 1) * dd Lm w (k + 1) c j)
  else 4 * σ * e * w k * (-(w (k + 1) * SS Lm w (k + 1) c i j) + w (k + 1) * (Lm i k * dd Lm w (k + 1) c j) + w (k + 1) * (Lm j (k + 1) * dd Lm w (k + 1) c i) - Lm (k + 1) k * (dd Lm w (k + 1) c i * dd Lm w (k + 1) c j))
theorem odd_ne {k c i j : Nat} {σ e : Int} (h : i ≠ k + 1) : odd Lm w k c σ e i j = 4 * σ * e * w k * (-(w (k + 1) * SS Lm w (k + 1) c i j) + w (k + 1) * (Lm i k * dd Lm w (k + 1) c j) + w (k + 1) * (Lm j (k + 1) * dd Lm w (k + 1) c i) - Lm (k + 1) k * (dd Lm w (k + 1) c i * dd Lm w (k + 1) c j)) := if_neg h
theorem nrm_bound (X : Low n Lm w) (h8 : n ≤ 8) {k c : Nat} (h : k + c = n) {σ e t : Int} (hσ : σ.natAbs ≤ 1) (he : e.natAbs ≤ 18 ^ k) (ht : t.natAbs ≤ 9 * k) (i j : Nat) : (nrm Lm w k c σ e t i j).natAbs < 2 ^ 63 := by
  have he : e.natAbs ≤ 18 ^ 8 := Nat.le_trans he (Nat.pow_le_pow_right (by decide) (by omega))
  have ht : t.natAbs ≤ 72 := by omega
  refine Nat.lt_of_le_of_lt (nb_mul (nb_mul (nb_mul hσ (b := 2) (B := 2) (by decide)) he) (nb_add (nb_mul ht (SS_bound X (by omega) h8 i j)) (nb_mul (dd_bound X (by omega) h8 i) (dd_bound X (by omega) h8 j)))) (by decide)
theorem odd_bound (X : Low n Lm w) (h8 : n ≤ 8) {k c : Nat} (h : k + 1 + c = n) (hc : 1 ≤ c) {σ e : Int} (hσ : σ.natAbs ≤ 1) (he : e.natAbs ≤ 18 ^ k) (i j : Nat) : (odd Lm w k c σ e i j).natAbs < 2 ^ 63 := by
  have he : e.natAbs ≤ 18 ^ 8 := Nat.le_trans he (Nat.pow_le_pow_right (by decide) (by omega))
  have hf : (4 * σ * e * w k).natAbs ≤ 4 * 1 * 18 ^ 8 * 9 := nb_mul (nb_mul (nb_mul (by decide) hσ) he) (X.wle k (by omega))
  have hv := X.wle (k + 1) (by omega)
  have di := dd_bound X (k := k + 1) (c := c) (by omega) h8 i
  have dj := dd_bound X (k := k + 1) (c := c) (by omega) h8 j
  unfold odd
  split
  · exact Nat.lt_of_le_of_lt (nb_mul hf (nb_mul hv dj)) (by decide)
  · exact Nat.lt_of_le_of_lt (nb_mul hf (nb_sub (nb_add (nb_add (nb_neg (nb_mul hv (SS_bound X (by omega) h8 i j))) (nb_mul hv (nb_mul (bit_le X i k) dj))) (nb_mul hv (nb_mul (bit_le X j (k + 1)) di))) (nb_mul (bit_le X (k + 1) k) (nb_mul di dj)))) (by decide)

theorem det_normal (X : Low n Lm w) (h8 : n ≤ 8) : ∀ (N c : Nat), c ≤ N → ∀ (k : Nat) (σ e t : Int), k + c = n → (σ = 1 ∨ σ = -1) → e ≠ 0 → t ≠ 0 → e.natAbs ≤ 18 ^ k → t.natAbs ≤ 9 * k →
    DetRun n k (nrm Lm w k c σ e t) σ (-σ * e * t) (-(e * pr (fun m => -2 * w m) k c) * (t + sm w k c)) := by
  intro N
  induction N with
  | zero =>
    intro c hc k σ e t hn hσ he ht hbe hbt
    have : c = 0 := by omega
    subst this
    have : k = n := by omega
    subst this
    have := DetRun.done (n := k) (M := nrm Lm w k 0 σ e t) (s := σ) (b := -σ * e * t)
    have er : -(e * pr (fun m => -2 * w m) k 0) * (t + sm w k 0) = σ * (-σ * e * t) := by
      simp only [pr, sm]
      rcases hσ with rfl | rfl <;> grind
    rw [er]; exact this
  | succ N ih =>
    intro c hc k σ e t hn hσ he ht hbe hbt
    cases c with
    | zero => exact ih 0 (Nat.zero_le _) k σ e t hn hσ he ht hbe hbt
    | succ c =>
    have hk : k < n := by omega
    have hw := X.wne k hk
    have hwb := X.wle k hk
    have hσ1 : σ.natAbs ≤ 1 := by rcases hσ with rfl | rfl <;> decide
    have hσ0 : σ ≠ 0 := by rcases hσ with rfl | rfl <;> decide
    have hb0 : -σ * e * t ≠ 0 := Int.mul_ne_zero (Int.mul_ne_zero (by omega) he) ht
    have hbb : (-σ * e * t).natAbs < 2 ^ 63 := by
      have he' : e.natAbs ≤ 18 ^ 8 := Nat.le_trans hbe (Nat.pow_le_pow_right (by decide) (by omega))
      have ht' : t.natAbs ≤ 72 := by omega
      exact Nat.lt_of_le_of_lt (nb_mul (nb_mul (nb_neg hσ1) he') ht') (by decide)
    -- entries at level k in terms of level k + 1
    have dk : dd Lm w k (c + 1) k = w k := by rw [dd_succ, X.diag k hk, dd_zero X (by omega)]; omega
    have Skk : SS Lm w k (c + 1) k k = w k := by rw [SS_succ, SS_left X (by omega), X.diag k hk]; simp
    have Sik : ∀ i, SS Lm w k (c + 1) i k = Lm i k * w k := fun i => by rw [SS_succ, SS_right X (by omega), X.diag k hk]; simp
    have Skj : ∀ j, SS Lm w k (c + 1) k j = w k * Lm j k := fun j => by rw [SS_succ, SS_left X (by omega), X.diag k hk]; simp
    have hkk : nrm Lm w k (c + 1) σ e t k k = σ * 2 * e * (w k * (t + w k)) := by unfold nrm; rw [dk, Skk]; grind
    by_cases ht' : t + w k = 0
    · -- the pivot is nought
      have htw : t = -w k := by omega
      have hz : nrm Lm w k (c + 1) σ e t k k = 0 := by rw [hkk, ht']; simp
      cases c with
      | zero =>
        have er : -(e * pr (fun m => -2 * w m) k (0 + 1)) * (t + sm w k (0 + 1)) = 0 := by
          simp only [sm]
          rw [show t + (w k + 0) = 0 by omega, Int.mul_zero]
        rw [er]
        exact .zero hk fun i h1 h2 => by rw [show i = k by omega]; exact hz
      | succ c =>
        have hk1 : k + 1 < n := by omega
        have hv := X.wne (k + 1) hk1
        have hvb := X.wle (k + 1) hk1
        have dv : dd Lm w (k + 1) (c + 1) (k + 1) = w (k + 1) := by rw [dd_succ, X.diag _ hk1, dd_zero X (by omega)]; omega
        have S1 : ∀ j, SS Lm w (k + 1) (c + 1) (k + 1) j = w (k + 1) * Lm j (k + 1) := fun j => by rw [SS_succ, SS_left X (by omega), X.diag _ hk1]; simp
        have S1' : ∀ i, SS Lm w (k + 1) (c + 1) i (k + 1) = Lm i (k + 1) * w (k + 1) := fun i => by rw [SS_succ, SS_right X (by omega), X.diag _ hk1]; simp
        have p1 : nrm Lm w k (c + 1 + 1) σ e t (k + 1) k = 2 * σ * e * w k * w (k + 1) := by
          unfold nrm; rw [Sik, dk, dd_succ, dv, htw]; grind
        have q1 : odd Lm w k (c + 1) σ e (k + 1) (k + 1) = 4 * σ * e * w k * (w (k + 1) * w (k + 1)) := by unfold odd; rw [if_pos rfl, dv]
        have p10 : 2 * σ * e * w k * w (k + 1) ≠ 0 := Int.mul_ne_zero (Int.mul_ne_zero (Int.mul_ne_zero (by omega) he) hw) hv
        have he8 : e.natAbs ≤ 18 ^ 8 := Nat.le_trans hbe (Nat.pow_le_pow_right (by decide) (by omega))
        have p1b : (2 * σ * e * w k * w (k + 1)).natAbs < 2 ^ 63 := Nat.lt_of_le_of_lt (nb_mul (nb_mul (nb_mul (nb_mul (B := 1) (by decide : (2 : Int).natAbs ≤ 2) hσ1) he8) hwb) hvb) (by decide)
        have hwv : w k * w (k + 1) ≠ 0 := Int.mul_ne_zero hw hv
        have ih' := ih c (by omega) (k + 2) (-σ) (4 * (w k * w (k + 1)) * e) (w (k + 1)) (by omega) (by omega) (Int.mul_ne_zero (by omega) he) hv
          (by have := nb_mul (nb_mul (by decide : (4 : Int).natAbs ≤ 4) (nb_mul hwb hvb)) hbe
              rw [Nat.pow_succ, Nat.pow_succ]; omega) (by omega)
        refine DetRun.step1 (M' := odd Lm w k (c + 1) σ e) hk1 hz (by rw [p1]; exact p10) (fun i j _ _ _ _ => nrm_bound X h8 hn hσ1 hbe hbt i j) hb0 hbb (fun j hj hjn => ?_) (fun i j hi hin hj hjn => ?_) ?_
        · rw [p1]
          have a1 : nrm Lm w k (c + 1 + 1) σ e t k j = 2 * σ * e * w k * dd Lm w (k + 1) (c + 1) j := by
            unfold nrm; rw [Skj, dk, dd_succ, htw]; grind
          have a2 : odd Lm w k (c + 1) σ e (k + 1) j = 4 * σ * e * w k * (w (k + 1) * dd Lm w (k + 1) (c + 1) j) := by unfold odd; rw [if_pos rfl]
          rw [a1, a2, htw]; grind
        · rw [p1]
          have a1 : nrm Lm w k (c + 1 + 1) σ e t i k = 2 * σ * e * w k * dd Lm w (k + 1) (c + 1) i := by
            unfold nrm; rw [Sik, dk, dd_succ, htw]; grind
          have a2 : nrm Lm w k (c + 1 + 1) σ e t (k + 1) j = 2 * σ * e * (-w k * (Lm (k + 1) k * (w k * Lm j k) + w (k + 1) * Lm j (k + 1)) + (Lm (k + 1) k * w k + w (k + 1)) * (Lm j k * w k + dd Lm w (k + 1) (c + 1) j)) := by
            unfold nrm; rw [SS_succ, S1, dd_succ k (c + 1) (k + 1), dd_succ k (c + 1) j, dv, htw, Int.mul_comm σ 2]
          have a3 : nrm Lm w k (c + 1 + 1) σ e t i j = 2 * σ * e * (-w k * (Lm i k * (w k * Lm j k) + SS Lm w (k + 1) (c + 1) i j) + (Lm i k * w k + dd Lm w (k + 1) (c + 1) i) * (Lm j k * w k + dd Lm w (k + 1) (c + 1) j)) := by
            unfold nrm; rw [SS_succ, dd_succ k (c + 1) i, dd_succ k (c + 1) j, htw, Int.mul_comm σ 2]
          have a4 := odd_ne (Lm := Lm) (w := w) (k := k) (c := c + 1) (i := i) (j := j) (σ := σ) (e := e) (by omega)
          rw [a1, a2, a3, a4, htw]
          generalize SS Lm w (k + 1) (c + 1) i j = S
          generalize dd Lm w (k + 1) (c + 1) i = x
          generalize dd Lm w (k + 1) (c + 1) j = y
          grind
        · rw [p1]
          refine DetRun.step0 (M' := nrm Lm w (k + 2) c (-σ) (4 * (w k * w (k + 1)) * e) (w (k + 1))) hk1 ?_ (fun i j _ _ _ _ => odd_bound X h8 (by omega) (by omega) hσ1 hbe i j) p10 p1b (fun i j hi hin hj hjn => ?_) ?_
          · rw [q1]
            exact Int.mul_ne_zero (Int.mul_ne_zero (Int.mul_ne_zero (by omega) he) hw) (Int.mul_ne_zero hv hv)
          · rw [q1]
            have b1 : odd Lm w k (c + 1) σ e (k + 1) j = 4 * σ * e * w k * (w (k + 1) * dd Lm w (k + 1) (c + 1) j) := by unfold odd; rw [if_pos rfl]
            have b2 : odd Lm w k (c + 1) σ e i (k + 1) = 4 * σ * e * w k * (-(w (k + 1) * (Lm i (k + 1) * w (k + 1))) + w (k + 1) * (Lm i k * w (k + 1)) + w (k + 1) * (1 * dd Lm w (k + 1) (c + 1) i) - Lm (k + 1) k * (dd Lm w (k + 1) (c + 1) i * w (k + 1))) := by
              unfold odd; rw [if_neg (by omega), S1', dv, X.diag _ hk1]
            have b3 := odd_ne (Lm := Lm) (w := w) (k := k) (c := c + 1) (i := i) (j := j) (σ := σ) (e := e) (by omega)
            rw [b1, b2, b3]
            unfold nrm
            rw [SS_succ (k := k + 1), dd_succ (k := k + 1), dd_succ (k := k + 1)]
            rw [show k + 1 + 1 = k + 2 from rfl]
            generalize SS Lm w (k + 2) c i j = S
            generalize dd Lm w (k + 2) c i = x
            generalize dd Lm w (k + 2) c j = y
            grind
          · rw [q1]
            have e1 : 4 * σ * e * w k * (w (k + 1) * w (k + 1)) = -(-σ) * (4 * (w k * w (k + 1)) * e) * w (k + 1) := by grind
            have e2 : -(e * pr (fun m => -2 * w m) k (c + 1 + 1)) * (t + sm w k (c + 1 + 1)) = -(4 * (w k * w (k + 1)) * e * pr (fun m => -2 * w m) (k + 2) c) * (w (k + 1) + sm w (k + 2) c) := by
              simp only [pr, sm]
              rw [htw, show k + 1 + 1 = k + 2 from rfl]
              generalize pr (fun m => -2 * w m) (k + 2) c = p
              generalize sm w (k + 2) c = q
              grind
            rw [e1, e2]
            exact ih'
    · -- the pivot stands
      have he' : -2 * w k * e ≠ 0 := Int.mul_ne_zero (by omega) he
      have ih' := ih c (by omega) (k + 1) σ (-2 * w k * e) (t + w k) (by omega) hσ he' ht'
        (by have := nb_mul (nb_mul (by decide : (-2 : Int).natAbs ≤ 2) hwb) hbe
            rw [Nat.pow_succ]; omega) (by omega)
      refine DetRun.step0 (M' := nrm Lm w (k + 1) c σ (-2 * w k * e) (t + w k)) hk ?_ (fun i j _ _ _ _ => nrm_bound X h8 hn hσ1 hbe hbt i j) hb0 hbb (fun i j hi hin hj hjn => ?_) ?_
      · rw [hkk]
        exact Int.mul_ne_zero (Int.mul_ne_zero (Int.mul_ne_zero hσ0 (by decide)) he) (Int.mul_ne_zero hw ht')
      · rw [hkk]
        unfold nrm
        rw [Sik, Skj, dk, SS_succ, dd_succ, dd_succ]
        generalize SS Lm w (k + 1) c i j = S
        generalize dd Lm w (k + 1) c i = x
        generalize dd Lm w (k + 1) c j = y
        grind
      · rw [hkk]
        have e1 : σ * 2 * e * (w k * (t + w k)) = -σ * (-2 * w k * e) * (t + w k) := by grind
        have e2 : -(e * pr (fun m => -2 * w m) k (c + 1)) * (t + sm w k (c + 1)) = -(-2 * w k * e * pr (fun m => -2 * w m) (k + 1) c) * (t + w k + sm w (k + 1) c) := by
          simp only [pr, sm]
          generalize pr (fun m => -2 * w m) (k + 1) c = p
          generalize sm w (k + 1) c = q
          grind
        rw [e1, e2]
        exact ih'
end

end

section
local macro_rules | `(tactic| walk_at "nm") => `(tactic| first
  | (with_reducible exact up_self)
  | (with_reducible refine up_ne ?_ (by decide +kernel); walk_at "nm")
  | (with_reducible refine cMap_free ?_ (by kernel_rfl); walk_at "nm")
  | (with_reducible assumption)
  | (with_reducible exact rfl))
local macro_rules | `(tactic| walk_at "ld") => `(tactic| refine InF.ld (by assumption) (by walk_at "nm") ?_)
local macro_rules | `(tactic| walk_at "ldn") => `(tactic| refine InF.ldn (by assumption) (by walk_at "nm") ?_)
section
variable {n : Nat} {Lm : Nat → Nat → Int} {w : Nat → Int}
/-- the second table, from its start: the first two rows always change places -/
theorem det_apart (X : Low n Lm w) (h8 : n ≤ 8) (c : Nat) (hn : c + 2 = n) : DetRun n 0 (fun i j => dd Lm w 1 (c + 1) i + dd Lm w 1 (c + 1) j - 2 * SS Lm w 1 (c + 1) i j) 1 1 (-(w 1 * pr (fun m => -2 * w m) 2 c) * (w 1 + sm w 2 c)) := by
  have hv := X.wne 1 (by omega)
  have hvb := X.wle 1 (by omega)
  have d0 : dd Lm w 1 (c + 1) 0 = 0 := dd_zero X (by omega)
  have d1 : dd Lm w 1 (c + 1) 1 = w 1 := by rw [dd_succ, X.diag 1 (by omega), dd_zero X (by omega)]; omega
  have S0l : ∀ j, SS Lm w 1 (c + 1) 0 j = 0 := fun j => SS_left X (by omega)
  have S0r : ∀ i, SS Lm w 1 (c + 1) i 0 = 0 := fun i => SS_right X (by omega)
  have S1l : ∀ j, SS Lm w 1 (c + 1) 1 j = w 1 * Lm j 1 := fun j => by rw [SS_succ, SS_left X (by omega), X.diag 1 (by omega)]; simp
  have S1r : ∀ i, SS Lm w 1 (c + 1) i 1 = Lm i 1 * w 1 := fun i => by rw [SS_succ, SS_right X (by omega), X.diag 1 (by omega)]; simp
  have dB := fun i => dd_bound X (k := 1) (c := c + 1) (by omega) h8 i
  have sB := fun i j => SS_bound X (k := 1) (c := c + 1) (by omega) h8 i j
  have ih := det_normal X h8 c c (Nat.le_refl _) 2 (-1) (w 1) (w 1) (by omega) (.inr rfl) hv hv (by omega) (by omega)
  refine DetRun.step1 (M' := fun i j => if i = 1 then dd Lm w 1 (c + 1) j * w 1 else w 1 * dd Lm w 1 (c + 1) j - 2 * (w 1 * SS Lm w 1 (c + 1) i j) - dd Lm w 1 (c + 1) i * dd Lm w 1 (c + 1) j + 2 * (w 1 * (Lm j 1 * dd Lm w 1 (c + 1) i)))
    (by omega) ?_ ?_ (fun i j _ _ _ _ => ?_) (by decide) (by decide) (fun j hj hjn => ?_) (fun i j hi hin hj hjn => ?_) ?_
  · (try dsimp only); rw [d0, S0l]; decide
  · (try dsimp only); rw [d0, d1, S0r]; simpa using hv
  · exact Nat.lt_of_le_of_lt (nb_sub (nb_add (dB i) (dB j)) (nb_mul (by decide : (2 : Int).natAbs ≤ 2) (sB i j))) (by decide)
  · try dsimp only
    rw [if_pos rfl, d0, d1, S0l, S0r]; grind
  · try dsimp only
    rw [if_neg (by omega), d0, d1, S0r, S1l]
    generalize SS Lm w 1 (c + 1) i j = S
    generalize dd Lm w 1 (c + 1) i = x
    generalize dd Lm w 1 (c + 1) j = y
    grind
  · try dsimp only
    have p1 : dd Lm w 1 (c + 1) (0 + 1) + dd Lm w 1 (c + 1) 0 - 2 * SS Lm w 1 (c + 1) (0 + 1) 0 = w 1 := by
      rw [show 0 + 1 = 1 from rfl, d0, d1, S0r]; omega
    rw [p1]
    refine DetRun.step0 (M' := nrm Lm w 2 c (-1) (w 1) (w 1)) (by omega) ?_ (fun i j _ _ _ _ => ?_) hv (by omega) (fun i j hi hin hj hjn => ?_) ?_
    · rw [if_pos rfl, d1]; exact Int.mul_ne_zero hv hv
    · skip
      split
      · exact Nat.lt_of_le_of_lt (nb_mul (dB j) hvb) (by decide)
      · exact Nat.lt_of_le_of_lt (nb_add (nb_sub (nb_sub (nb_mul hvb (dB j)) (nb_mul (by decide : (2 : Int).natAbs ≤ 2) (nb_mul hvb (sB i j)))) (nb_mul (dB i) (dB j))) (nb_mul (by decide : (2 : Int).natAbs ≤ 2) (nb_mul hvb (nb_mul (bit_le X j 1) (dB i))))) (by decide)
    · skip
      rw [if_neg (by omega), if_pos rfl, if_neg (by omega), if_pos rfl, show (0 : Nat) + 1 = 1 from rfl, d1, S1r, X.diag 1 (by omega)]
      unfold nrm
      rw [SS_succ 1 c i j, dd_succ 1 c i, dd_succ 1 c j, show (1 : Nat) + 1 = 2 from rfl]
      generalize SS Lm w 2 c i j = S
      generalize dd Lm w 2 c i = x
      generalize dd Lm w 2 c j = y
      grind
    · skip
      rw [if_pos rfl, show (0 : Nat) + 1 = 1 from rfl, d1]
      have e1 : w 1 * w 1 = -(-1) * w 1 * w 1 := by grind
      rw [e1]
      exact ih
end

end

section
local macro_rules | `(tactic| walk_at "nm") => `(tactic| first
  | (with_reducible exact up_self)
  | (with_reducible refine up_ne ?_ (by decide +kernel); walk_at "nm")
  | (with_reducible refine cMap_free ?_ (by kernel_rfl); walk_at "nm")
  | (with_reducible assumption)
  | (with_reducible exact rfl))
local macro_rules | `(tactic| walk_at "ld") => `(tactic| refine InF.ld (by assumption) (by walk_at "nm") ?_)
local macro_rules | `(tactic| walk_at "ldn") => `(tactic| refine InF.ldn (by assumption) (by walk_at "nm") ?_)
/-- chains of a tree whose nodes are numbered parents first -/
structure Tree (n : Nat) (ch : Nat → List Nat) : Prop where
  zero : ch 0 = [0]
  succ : ∀ i, 0 < i → i < n → ∃ p, p < i ∧ ch i = i :: ch p
section
variable {n : Nat} {ch : Nat → List Nat}
theorem Tree.le (T : Tree n ch) : ∀ i, i < n → ∀ k ∈ ch i, k ≤ i := by
  intro i
  induction i using Nat.strongRecOn with
  | _ i ih =>
    intro hi k hk
    rcases Nat.eq_zero_or_pos i with rfl | h0
    · rw [T.zero] at hk; simp at hk; omega
    · obtain ⟨p, hp, e⟩ := T.succ i h0 hi
      rw [e] at hk
      rcases List.mem_cons.mp hk with rfl | hk
      · exact Nat.le_refl _
      · have := ih p hp (by omega) k hk; omega
theorem Tree.hd (T : Tree n ch) (i : Nat) (hi : i < n) : ∃ r, ch i = i :: r := by
  rcases Nat.eq_zero_or_pos i with rfl | h0
  · exact ⟨[], T.zero⟩
  · obtain ⟨p, hp, e⟩ := T.succ i h0 hi; exact ⟨_, e⟩
theorem Tree.self (T : Tree n ch) {i : Nat} (hi : i < n) : i ∈ ch i := by obtain ⟨r, e⟩ := T.hd i hi; rw [e]; exact List.mem_cons_self
theorem Tree.root (T : Tree n ch) : ∀ i, i < n → 0 ∈ ch i := by
  intro i
  induction i using Nat.strongRecOn with
  | _ i ih =>
    intro hi
    rcases Nat.eq_zero_or_pos i with rfl | h0
    · rw [T.zero]; exact List.mem_cons_self
    · obtain ⟨p, hp, e⟩ := T.succ i h0 hi
      rw [e]; exact List.mem_cons_of_mem _ (ih p hp (by omega))
theorem Tree.nodup (T : Tree n ch) : ∀ i, i < n → (ch i).Nodup := by
  intro i
  induction i using Nat.strongRecOn with
  | _ i ih =>
    intro hi
    rcases Nat.eq_zero_or_pos i with rfl | h0
    · rw [T.zero]; simp
    · obtain ⟨p, hp, e⟩ := T.succ i h0 hi
      rw [e]
      exact List.nodup_cons.mpr ⟨fun h => by have := T.le p (by omega) i h; omega, ih p hp (by omega)⟩
theorem Tree.len (T : Tree n ch) : ∀ i, i < n → (ch i).length ≤ i + 1 := by
  intro i
  induction i using Nat.strongRecOn with
  | _ i ih =>
    intro hi
    rcases Nat.eq_zero_or_pos i with rfl | h0
    · rw [T.zero]; simp
    · obtain ⟨p, hp, e⟩ := T.succ i h0 hi
      rw [e, List.length_cons]
      have := ih p hp (by omega); omega
theorem Tree.sub (T : Tree n ch) : ∀ i, i < n → ∀ k ∈ ch i, ∀ x ∈ ch k, x ∈ ch i := by
  intro i
  induction i using Nat.strongRecOn with
  | _ i ih =>
    intro hi k hk x hx
    rcases Nat.eq_zero_or_pos i with rfl | h0
    · rw [T.zero] at hk; rw [List.mem_singleton.mp hk] at hx; exact hx
    · obtain ⟨p, hp, e⟩ := T.succ i h0 hi
      rw [e] at hk
      rcases List.mem_cons.mp hk with rfl | hk
      · exact hx
      · rw [e]; exact List.mem_cons_of_mem _ (ih p hp (by omega) k hk x hx)
theorem Tree.meet (T : Tree n ch) {j : Nat} (hj : j < n) : ∀ i, i < n → ∃ f, f < n ∧ (ch i).filter (fun k => decide (k ∈ ch j)) = ch f := by
  intro i
  induction i using Nat.strongRecOn with
  | _ i ih =>
    intro hi
    by_cases hij : i ∈ ch j
    · refine ⟨i, hi, List.filter_eq_self.mpr fun x hx => ?_⟩
      exact decide_eq_true (T.sub j hj i hij x hx)
    · rcases Nat.eq_zero_or_pos i with rfl | h0
      · exact absurd (T.root j hj) hij
      · obtain ⟨p, hp, e⟩ := T.succ i h0 hi
        obtain ⟨f, hf, ef⟩ := ih p hp (by omega)
        refine ⟨f, hf, ?_⟩
        rw [e, List.filter_cons_of_neg (by simpa using hij), ef]

theorem sm_one (a : Nat) (x : Int) : ∀ c k : Nat, sm (fun m => if m = a then x else 0) k c = if k ≤ a ∧ a < k + c then x else 0
  | 0, k => by rw [sm, if_neg (by omega)]
  | c + 1, k => by
    rw [sm, sm_one a x c (k + 1)]
    by_cases h : k = a
    · rw [if_pos h, if_neg (by omega), if_pos (by omega)]; omega
    · rw [if_neg h]
      by_cases h2 : k + 1 ≤ a ∧ a < k + 1 + c
      · rw [if_pos h2, if_pos (by omega)]; omega
      · rw [if_neg h2, if_neg (by omega)]; omega
theorem sum_list (g : Nat → Int) (n : Nat) : ∀ l : List Nat, l.Nodup → (∀ x ∈ l, x < n) → (l.map g).sum = sm (fun m => if m ∈ l then g m else 0) 0 n
  | [], _, _ => by
    rw [sm_zero fun m _ _ => by simp]; rfl
  | a :: r, hd, hl => by
    obtain ⟨h1, h2⟩ := List.nodup_cons.mp hd
    rw [List.map_cons, List.sum_cons, sum_list g n r h2 fun x hx => hl x (List.mem_cons_of_mem _ hx)]
    have ha := hl a List.mem_cons_self
    have e : sm (fun m => if m ∈ a :: r then g m else 0) 0 n = sm (fun m => (if m = a then g a else 0) + (if m ∈ r then g m else 0)) 0 n := sm_congr fun m _ _ => by
      by_cases hm : m = a
      · subst hm; rw [if_pos List.mem_cons_self, if_pos rfl, if_neg h1]; omega
      · rw [if_neg hm]
        by_cases hr : m ∈ r
        · rw [if_pos (List.mem_cons_of_mem _ hr), if_pos hr]; omega
        · rw [if_neg (by simp [hm, hr]), if_neg hr]; omega
    rw [e, sm_add, sm_one, if_pos (by omega)]

def lm (n : Nat) (ch : Nat → List Nat) (i k : Nat) : Int := if i < n ∧ k ∈ ch i then 1 else 0
theorem Tree.low (T : Tree n ch) {w : Nat → Int} (h1 : ∀ k, k < n → w k ≠ 0) (h2 : ∀ k, k < n → (w k).natAbs ≤ 9) : Low n (lm n ch) w := by
  refine ⟨fun i k => ?_, fun i hi => if_pos ⟨hi, T.self hi⟩, fun i k h => if_neg fun ⟨hi, hk⟩ => ?_, fun i hi => if_pos ⟨hi, T.root i hi⟩, h1, h2⟩
  · unfold lm; split
    · exact .inr rfl
    · exact .inl rfl
  · have := T.le i hi k hk; omega
variable {ws : List Int}
theorem Tree.hgt (T : Tree n ch) {i : Nat} (hi : i < n) : Mine.hgt ws ch i = dd (lm n ch) (worthAt ws) 0 n i := by
  unfold Mine.hgt dd
  rw [sum_list _ n _ (T.nodup i hi) fun x hx => by have := T.le i hi x hx; omega]
  refine sm_congr fun m _ _ => ?_
  unfold lm
  by_cases hm : m ∈ ch i
  · rw [if_pos hm, if_pos ⟨hi, hm⟩]; omega
  · rw [if_neg hm, if_neg (fun h => hm h.2)]; omega
theorem Tree.shr (T : Tree n ch) {i j : Nat} (hi : i < n) (hj : j < n) : Mine.shr ws ch i j = SS (lm n ch) (worthAt ws) 0 n i j := by
  obtain ⟨f, hf, ef⟩ := T.meet hj i hi
  obtain ⟨r, er⟩ := T.hd f hf
  have e1 : firstOf ch i j = f := by unfold firstOf; rw [ef, er]; rfl
  unfold Mine.shr
  rw [e1]
  unfold Mine.hgt SS
  rw [← ef, sum_list _ n _ ((T.nodup i hi).filter _) fun x hx => by have := T.le i hi x (List.mem_filter.mp hx).1; omega]
  refine sm_congr fun m _ _ => ?_
  unfold lm
  by_cases h1 : m ∈ ch i <;> by_cases h2 : m ∈ ch j <;> simp [h1, h2, hi, hj]
theorem Tree.apt (T : Tree n ch) {i j : Nat} (hi : i < n) (hj : j < n) : Mine.apt ws ch n i j = Mine.hgt ws ch i + Mine.hgt ws ch j - 2 * Mine.shr ws ch i j := by
  rw [T.hgt hi, T.hgt hj, T.shr hi hj]
  unfold Mine.apt dd SS
  rw [sum_list _ n _ (List.nodup_range.filter _) fun x hx => by have := (List.mem_filter.mp hx).1; simpa using this]
  have e : ∀ m, m < n → (if m ∈ (List.range n).filter (fun k => decide (k ∈ ch i) != decide (k ∈ ch j)) then worthAt ws m else 0) = lm n ch i m * worthAt ws m + (lm n ch j m * worthAt ws m + (-2) * (lm n ch i m * (worthAt ws m * lm n ch j m))) := by
    intro m hm
    unfold lm
    by_cases h1 : m ∈ ch i <;> by_cases h2 : m ∈ ch j <;> simp [h1, h2, hi, hj, hm] <;> omega
  rw [sm_congr fun m _ h => e m (by omega), sm_add, sm_add, sm_mul]
  omega

theorem drop_sum : ∀ (c k : Nat), k + c = ws.length → (ws.drop k).sum = sm (worthAt ws) k c
  | 0, k, h => by rw [List.drop_of_length_le (by omega)]; rfl
  | c + 1, k, h => by
    have hk : k < ws.length := by omega
    rw [List.drop_eq_getElem_cons hk, List.sum_cons, drop_sum c (k + 1) (by omega), sm]
    have := worthAt_get (ws := ws) rfl hk
    rw [List.getElem?_eq_getElem hk] at this
    rw [Option.some.inj this]
theorem drop_prod : ∀ (c k : Nat) (x : Int), k + c = ws.length → (ws.drop k).foldl (· * ·) x = x * pr (worthAt ws) k c
  | 0, k, x, h => by rw [List.drop_of_length_le (by omega)]; simp [pr]
  | c + 1, k, x, h => by
    have hk : k < ws.length := by omega
    rw [List.drop_eq_getElem_cons hk, List.foldl_cons, drop_prod c (k + 1) _ (by omega), pr]
    have := worthAt_get (ws := ws) rfl hk
    rw [List.getElem?_eq_getElem hk] at this
    rw [Option.some.inj this, Int.mul_assoc]
theorem pr_scale (a : Int) (w : Nat → Int) : ∀ c k : Nat, pr (fun m => a * w m) k c = a ^ c * pr w k c
  | 0, _ => by simp [pr]
  | c + 1, k => by
    rw [pr, pr, pr_scale a w c (k + 1), Int.pow_succ]
    generalize a ^ c = p
    generalize pr w (k + 1) c = q
    grind
theorem neg_two_pow : ∀ c : Nat, (-2 : Int) ^ c = (if c % 2 = 0 then 1 else -1) * 2 ^ c
  | 0 => by simp
  | c + 1 => by
    rw [Int.pow_succ, Int.pow_succ, neg_two_pow c]
    by_cases h : c % 2 = 0
    · rw [if_pos h, if_neg (by omega)]; generalize (2 : Int) ^ c = p; omega
    · rw [if_neg h, if_pos (by omega)]; generalize (2 : Int) ^ c = p; omega

theorem Tree.det1 (T : Tree n ch) (hl : ws.length = n) (h2 : 2 ≤ n) (h8 : n ≤ 8) (h1 : ∀ k, k < n → worthAt ws k ≠ 0) (h9 : ∀ k, k < n → (worthAt ws k).natAbs ≤ 9) : DetRun n 0 (Mine.shr ws ch) 1 1 (worthAt ws 0 * prodOf ws) := by
  have := det_shared (T.low h1 h9) h8 n 0 1 (by omega) (by decide) (by decide)
  have e : worthAt ws 0 * prodOf ws = 1 * pr (worthAt ws) 0 n := by
    obtain ⟨c, rfl⟩ : ∃ c, n = c + 1 := ⟨n - 1, by omega⟩
    unfold prodOf
    rw [drop_prod c 1 1 (by omega), pr, Int.one_mul, Int.one_mul]
  rw [e]
  refine this.congr fun i j _ hi _ hj => ?_
  show 1 * SS _ _ 0 n i j = _
  rw [T.shr hi hj]; omega
theorem Tree.det2 (T : Tree n ch) (hl : ws.length = n) (h2 : 2 ≤ n) (h8 : n ≤ 8) (h1 : ∀ k, k < n → worthAt ws k ≠ 0) (h9 : ∀ k, k < n → (worthAt ws k).natAbs ≤ 9) : DetRun n 0 (Mine.apt ws ch n) 1 1 (sgnOf n * 2 ^ (n - 2) * prodOf ws * (ws.drop 1).sum) := by
  obtain ⟨c, rfl⟩ : ∃ c, n = c + 2 := ⟨n - 2, by omega⟩
  have := det_apart (T.low h1 h9) h8 c rfl
  have e : sgnOf (c + 2) * 2 ^ (c + 2 - 2) * prodOf ws * (ws.drop 1).sum = -(worthAt ws 1 * pr (fun m => -2 * worthAt ws m) 2 c) * (worthAt ws 1 + sm (worthAt ws) 2 c) := by
    unfold prodOf sgnOf
    rw [drop_prod (c + 1) 1 1 (by omega), drop_sum (c + 1) 1 (by omega), pr, sm, pr_scale, neg_two_pow, show c + 2 - 2 = c from rfl, show (1 : Nat) + 1 = 2 from rfl]
    have e2 : (c + 2) % 2 = c % 2 := by omega
    rw [e2]
    generalize (2 : Int) ^ c = p
    generalize pr (worthAt ws) 2 c = q
    generalize sm (worthAt ws) 2 c = z
    by_cases h : c % 2 = 0
    · rw [if_pos h, if_pos h]; grind
    · rw [if_neg h, if_neg h]; grind
  rw [e]
  refine this.congr fun i j _ hi _ hj => ?_
  rw [T.apt hi hj, T.hgt hi, T.hgt hj, T.shr hi hj]
  rw [dd_succ 0 (c + 1) i, dd_succ 0 (c + 1) j, SS_succ 0 (c + 1) i j]
  have X := T.low h1 h9
  rw [X.root i hi, X.root j hj, show (0 : Nat) + 1 = 1 from rfl]
  omega
end

end

section
local macro_rules | `(tactic| walk_at "nm") => `(tactic| first
  | (with_reducible exact up_self)
  | (with_reducible refine up_ne ?_ (by decide +kernel); walk_at "nm")
  | (with_reducible refine cMap_free ?_ (by kernel_rfl); walk_at "nm")
  | (with_reducible assumption)
  | (with_reducible exact rfl))
local macro_rules | `(tactic| walk_at "ld") => `(tactic| refine InF.ld (by assumption) (by walk_at "nm") ?_)
local macro_rules | `(tactic| walk_at "ldn") => `(tactic| refine InF.ldn (by assumption) (by walk_at "nm") ?_)
/-- a text as its list of signs -/
def ls (x : Str) : List Nat := x.cps.toList
theorem ls_inj {x y : Str} (h : ls x = ls y) : x = y := by
  obtain ⟨a⟩ := x; obtain ⟨b⟩ := y
  exact congrArg Str.mk (Array.toList_inj.mp h)
theorem ls_app (x y : Str) : ls (x ++ y) = ls x ++ ls y := by
  show (x.cps ++ y.cps).toList = _
  rw [Array.toList_append]; rfl
theorem ls_len (x : Str) : (ls x).length = x.length := by simp [ls, Str.length]
theorem ls_mk (l : List Nat) : ls ⟨l.toArray⟩ = l := by simp [ls]
theorem SL_mk : SL = ⟨#[47]⟩ := by decide +kernel
theorem ls_SL : ls SL = [47] := by rw [SL_mk]; rfl
theorem SL_has (c : Nat) : SL.cps.contains c = (c == 47) := by
  rw [SL_mk]
  show Array.contains #[47] c = _
  simp
  rfl
/-- does not end in a slash -/
def NoEnd (l : List Nat) : Prop := l.getLast? ≠ some 47
theorem rstrip_ls (x : Str) (Y : List Nat) (m : Nat) (h : ls x = Y ++ List.replicate m 47) (hY : NoEnd Y) : ls (Txt.rstripChars x SL) = Y := by
  unfold Txt.rstripChars
  rw [PyProof.Rows.stripBy_eq, strSub_mk, ls_mk]
  have hlo : stripLo SL.cps.contains false x = 0 := rfl
  rw [hlo]
  have hhi : stripHi SL.cps.contains true x 0 = Y.length := by
    unfold stripHi
    rw [if_pos rfl, List.drop_zero, show x.cps.toList = Y ++ List.replicate m 47 from h, List.reverse_append, List.reverse_replicate]
    have e1 : (List.replicate m 47 ++ Y.reverse).takeWhile SL.cps.contains = List.replicate m 47 ++ Y.reverse.takeWhile SL.cps.contains :=
      List.takeWhile_append_of_pos fun a ha => by rw [SL_has, (List.mem_replicate.mp ha).2]; rfl
    have e2 : Y.reverse.takeWhile SL.cps.contains = [] := by
      cases e : Y.reverse with
      | nil => rfl
      | cons a r =>
        rw [List.takeWhile_cons, if_neg]
        intro hc
        rw [SL_has] at hc
        have : Y.getLast? = some a := by rw [← List.head?_reverse, e]; rfl
        rw [beq_iff_eq.mp hc] at this
        exact hY this
    rw [e1, e2, List.append_nil, List.length_replicate, ← ls_len, h]
    simp
  rw [hhi]
  show ((ls x).drop 0).take (Y.length - 0) = Y
  rw [h, List.drop_zero, Nat.sub_zero, List.take_left]
theorem at_slash (x : Str) (i : Nat) : StrLaws.At x SL x.length i ↔ (ls x)[i]? = some 47 := by
  unfold StrLaws.At
  rw [StrLaws.subAt_eq, SL_length, beq_iff_eq]
  rw [show SL.cps.toList = [47] from ls_SL, ← ls_len]
  show i + 1 ≤ _ ∧ ((ls x).drop i).take 1 = [47] ↔ _
  constructor
  · rintro ⟨h1, h2⟩
    rw [List.drop_eq_getElem_cons (by omega), List.take_succ_cons, List.take_zero] at h2
    rw [List.getElem?_eq_getElem (by omega), (List.cons.inj h2).1]
  · intro h
    have hi : i < (ls x).length := by
      rcases Nat.lt_or_ge i (ls x).length with h' | h'
      · exact h'
      · rw [List.getElem?_eq_none h'] at h; cases h
    rw [List.getElem?_eq_getElem hi] at h
    refine ⟨hi, ?_⟩
    rw [List.drop_eq_getElem_cons hi, Option.some.inj h]
    simp
/-- parent, slashes, name -/
theorem rfind_ls (x : Str) (Y N : List Nat) (m : Nat) (h : ls x = Y ++ (List.replicate (m + 1) 47 ++ N)) (hN : 47 ∉ N) : Txt.rfind x SL = ((Y.length + m : Nat) : Int) := by
  have here : StrLaws.At x SL x.length (Y.length + m) := by
    rw [at_slash, h, List.getElem?_append_right (by omega), List.getElem?_append_left (by simp), List.getElem?_replicate, if_pos (by omega)]
  have past : ∀ i, Y.length + m < i → ¬ StrLaws.At x SL x.length i := fun i hi => by
    rw [at_slash, h, List.getElem?_append_right (by omega), List.getElem?_append_right (by simp; omega)]
    intro e
    exact hN (List.mem_of_getElem? e)
  rcases rfind_whole x SL with ⟨_, h2⟩ | ⟨i, e, hi, hn⟩
  · exact absurd here (h2 _)
  · rcases Nat.lt_trichotomy i (Y.length + m) with h' | h' | h'
    · exact absurd here (hn _ h')
    · rw [e, h']
    · exact absurd hi (past _ h')
theorem splitH_ls (x : Str) (Y N : List Nat) (m : Nat) (h : ls x = Y ++ (List.replicate (m + 1) 47 ++ N)) (hN : 47 ∉ N) : ls (splitH x) = Y ++ List.replicate (m + 1) 47 := by
  unfold splitH splitI
  rw [rfind_ls x Y N m h hN]
  have hle : Y.length + m + 1 ≤ x.cps.toList.length := by
    have : x.cps.toList = _ := h
    rw [this]; simp; omega
  have e : Txt.slice x none (some (((Y.length + m : Nat) : Int) + 1)) = ⟨((x.cps.toList.drop 0).take ((((Y.length + m : Nat) : Int) + 1) - 0).toNat).toArray⟩ := StrLaws.sliceText_to (x := x) (j := ((Y.length + m : Nat) : Int) + 1) ⟨by omega, by omega⟩
  rw [e, ls_mk]
  show ((ls x).drop 0).take _ = _
  rw [h, List.drop_zero, show ((((Y.length + m : Nat) : Int) + 1) - 0).toNat = (Y ++ List.replicate (m + 1) 47).length by simp; omega, ← List.append_assoc, List.take_left]
theorem ls_mulSL : ∀ n : Nat, ∀ c ∈ ls (Txt.mul SL (n : Int)), c = 47 := by
  intro n c hc
  unfold Txt.mul at hc
  split at hc
  · simp [ls, Str.empty] at hc
  · split at hc
    · rw [ls_SL] at hc; simpa using hc
    · have key : ∀ (k : Nat) (acc : Array Nat), (∀ c ∈ acc.toList, c = 47) → ∀ c ∈ ((List.replicate k SL.cps).foldl (· ++ ·) acc).toList, c = 47 := by
        intro k
        induction k with
        | zero => intro acc h; exact h
        | succ k ih =>
          intro acc h
          rw [List.replicate_succ, List.foldl_cons]
          refine ih _ fun c hc => ?_
          rw [Array.toList_append] at hc
          rcases List.mem_append.mp hc with hc | hc
          · exact h c hc
          · have : c ∈ ls SL := hc
            rw [ls_SL] at this; simpa using this
      exact key _ #[] (fun _ h => by simp at h) c hc
theorem splitHead_ls (x : Str) (Y N : List Nat) (m : Nat) (h : ls x = Y ++ (List.replicate (m + 1) 47 ++ N)) (hN : 47 ∉ N) (hY : NoEnd Y) (h0 : Y ≠ []) : ls (splitHead x) = Y := by
  have hH := splitH_ls x Y N m h hN
  have hl : (splitH x).length = Y.length + (m + 1) := by rw [← ls_len, hH]; simp
  unfold splitHead
  rw [if_pos (by rw [bne_iff_ne, hl]; omega), if_pos]
  · exact rstrip_ls _ Y (m + 1) hH hY
  · rw [bne_iff_ne]
    intro e
    cases hla : Y.getLast? with
    | none => exact h0 (List.getLast?_eq_none_iff.mp hla)
    | some c =>
      have hc : c ∈ ls (splitH x) := by rw [hH]; exact List.mem_append_left _ (List.mem_of_getLast? hla)
      have : c ∈ ls (Txt.mul SL ((splitH x).length : Int)) := by
        show c ∈ (Txt.mul SL ((splitH x).length : Int)).cps.toList
        rw [← e]; exact hc
      have := ls_mulSL _ _ this
      exact hY (this ▸ hla)

theorem starts_ls (x y : Str) : Txt.startswith x y = true ↔ ls y <+: ls x := by
  unfold Txt.startswith
  rw [StrLaws.subAt_eq, Bool.and_eq_true, decide_eq_true_eq, beq_iff_eq, List.drop_zero, ← ls_len, ← ls_len, Nat.zero_add]
  show _ ∧ (ls x).take (ls y).length = ls y ↔ _
  constructor
  · rintro ⟨_, h⟩
    rw [← h]; exact List.take_prefix _ _
  · intro h
    exact ⟨h.length_le, (List.prefix_iff_eq_take.mp h).symm⟩
theorem last_slice (a : Str) (h : NoEnd (ls a)) : (Txt.slice a (some (-1)) none == SL) = false := by
  rw [beq_eq_false_iff_ne]
  intro e
  rw [slice_from_neg (by decide)] at e
  by_cases h0 : a.length = 0
  · have : max 0 ((a.length : Int) + -1) = 0 := by omega
    rw [this] at e
    have e2 : Txt.slice a (some 0) none = ⟨((a.cps.toList.drop (0 : Int).toNat).take ((a.cps.toList.length : Int) - 0).toNat).toArray⟩ := StrLaws.sliceText_from (x := a) (i := 0) ⟨by decide, by omega⟩
    have e3 := congrArg ls (e2.symm.trans e)
    rw [ls_mk, ls_SL] at e3
    have : ls a = [] := List.length_eq_zero_iff.mp (by rw [ls_len]; exact h0)
    rw [show a.cps.toList = [] from this] at e3
    simp at e3
  · have hm : max 0 ((a.length : Int) + -1) = ((a.length - 1 : Nat) : Int) := by omega
    rw [hm] at e
    have hle : a.length = a.cps.toList.length := (ls_len a).symm
    have e2 : Txt.slice a (some ((a.length - 1 : Nat) : Int)) none = ⟨((a.cps.toList.drop ((a.length - 1 : Nat) : Int).toNat).take ((a.cps.toList.length : Int) - ((a.length - 1 : Nat) : Int)).toNat).toArray⟩ := StrLaws.sliceText_from (x := a) (i := ((a.length - 1 : Nat) : Int)) ⟨by omega, by omega⟩
    have e3 := congrArg ls (e2.symm.trans e)
    rw [ls_mk, ls_SL, Int.toNat_natCast] at e3
    have hal : a.length - 1 < (ls a).length := by rw [ls_len]; omega
    rw [show a.cps.toList = ls a from rfl, List.drop_eq_getElem_cons hal, show ((ls a).length : Int) - ((a.length - 1 : Nat) : Int) = 1 by rw [ls_len]; omega] at e3
    have e4 : (ls a)[a.length - 1] = 47 := by
      rw [show (1 : Int).toNat = 0 + 1 from rfl, List.take_succ_cons, List.take_zero] at e3
      exact (List.cons.inj e3).1
    refine h ?_
    rw [List.getLast?_eq_getElem?, ls_len, List.getElem?_eq_getElem hal, e4]
theorem uri_ls (a p : Str) (h : NoEnd (ls a)) : uriB a p = true ↔ (ls a = ls p ∨ ls a ++ [47] <+: ls p) := by
  unfold uriB
  rw [last_slice a h, if_neg (by decide), Bool.or_eq_true, beq_iff_eq, starts_ls, ls_app, ls_SL]
  exact or_congr ⟨fun e => by rw [e], ls_inj⟩ Iff.rfl
/-- what covers a child covers its parent, or is the child -/
theorem cover_step (A Q N : List Nat) (m : Nat) (hA : NoEnd A) (hN : 47 ∉ N) (h0 : A ≠ []) : A ++ [47] <+: Q ++ (List.replicate (m + 1) 47 ++ N) ↔ (A = Q ∨ A ++ [47] <+: Q) := by
  constructor
  · intro h
    have hlen := h.length_le
    simp only [List.length_append, List.length_replicate, List.length_singleton] at hlen
    obtain ⟨t, e⟩ := h
    have pre : ∀ i, i < A.length → (Q ++ (List.replicate (m + 1) 47 ++ N))[i]? = A[i]? := fun i hi => by
      rw [← e, List.getElem?_append_left (by simp; omega), List.getElem?_append_left hi]
    have at47 : (Q ++ (List.replicate (m + 1) 47 ++ N))[A.length]? = some 47 := by
      rw [← e, List.getElem?_append_left (by simp), List.getElem?_append_right (Nat.le_refl _)]; simp
    have hlt : A.length < Q.length + (m + 1) := by
      rcases Nat.lt_or_ge A.length (Q.length + (m + 1)) with h | h
      · exact h
      · rw [List.getElem?_append_right (by omega), List.getElem?_append_right (by simp; omega)] at at47
        exact absurd (List.mem_of_getElem? at47) hN
    rcases Nat.lt_trichotomy A.length Q.length with h | h | h
    · right
      rw [List.prefix_iff_eq_take]
      have e2 := congrArg (List.take (A.length + 1)) e
      rw [List.take_append_of_le_length (by simp), List.take_of_length_le (by simp), List.take_append_of_le_length (by omega)] at e2
      simpa using e2
    · left
      have e2 := congrArg (List.take A.length) e
      rw [List.append_assoc, List.take_left, h, List.take_left] at e2
      exact e2
    · exfalso
      have hpos : 0 < A.length := List.length_pos_iff.mpr h0
      have := pre (A.length - 1) (by omega)
      rw [List.getElem?_append_right (by omega), List.getElem?_append_left (by simp; omega)] at this
      refine hA ?_
      rw [List.getLast?_eq_getElem?, ← this, List.getElem?_replicate, if_pos (by omega)]
  · rintro (rfl | h)
    · refine (List.prefix_append_right_inj _).mpr ?_
      rw [List.replicate_succ]
      exact ⟨_, rfl⟩
    · exact h.trans (List.prefix_append _ _)

end

section
local macro_rules | `(tactic| walk_at "nm") => `(tactic| first
  | (with_reducible exact up_self)
  | (with_reducible refine up_ne ?_ (by decide +kernel); walk_at "nm")
  | (with_reducible refine cMap_free ?_ (by kernel_rfl); walk_at "nm")
  | (with_reducible assumption)
  | (with_reducible exact rfl))
local macro_rules | `(tactic| walk_at "ld") => `(tactic| refine InF.ld (by assumption) (by walk_at "nm") ?_)
local macro_rules | `(tactic| walk_at "ldn") => `(tactic| refine InF.ldn (by assumption) (by walk_at "nm") ?_)
structure PathTree (ps : List Str) (ch : Nat → List Nat) : Prop where
  pos : 0 < ps.length
  zero : ch 0 = [0]
  root : pathAt ps 0 = Str.ofString "/s"
  kid : ∀ i, 0 < i → i < ps.length → ∃ p m N, p < i ∧ ch i = i :: ch p ∧ ls (pathAt ps i) = ls (pathAt ps p) ++ (List.replicate (m + 1) 47 ++ N) ∧ 47 ∉ N ∧ N ≠ []
  nodup : ∀ i j, i < ps.length → j < ps.length → pathAt ps i = pathAt ps j → i = j
section
variable {ps : List Str} {ch : Nat → List Nat}
theorem PathTree.tree (X : PathTree ps ch) : Tree ps.length ch := ⟨X.zero, fun i h0 hi => let ⟨p, _, _, hp, e, _⟩ := X.kid i h0 hi; ⟨p, hp, e⟩⟩
theorem PathTree.good (X : PathTree ps ch) {i : Nat} (hi : i < ps.length) : ls (pathAt ps i) ≠ [] ∧ NoEnd (ls (pathAt ps i)) := by
  rcases Nat.eq_zero_or_pos i with rfl | h0
  · rw [X.root]
    have : ls (Str.ofString "/s") = [47, 115] := by decide +kernel
    rw [this]
    exact ⟨by simp, by unfold NoEnd; simp⟩
  · obtain ⟨p, m, N, _, _, e, hN, hN0⟩ := X.kid i h0 hi
    rw [e]
    refine ⟨by simp, fun h => ?_⟩
    rw [← List.append_assoc, List.getLast?_append] at h
    cases hl : N.getLast? with
    | none => exact hN0 (List.getLast?_eq_none_iff.mp hl)
    | some c =>
      rw [hl] at h
      have hc : c = 47 := by simpa using h
      exact hN (hc ▸ List.mem_of_getLast? hl)
theorem PathTree.rstrip (X : PathTree ps ch) {i : Nat} (hi : i < ps.length) : Txt.rstripChars (pathAt ps i) SL = pathAt ps i := ls_inj (rstrip_ls _ _ 0 (by simp) (X.good hi).2)
theorem PathTree.next (X : PathTree ps ch) : ∀ i, i < ps.length → ∀ j, j < (ch i).length → ((ch i).map (pathAt ps)).getD (j + 1) SL = splitHead (((ch i).map (pathAt ps)).getD j SL) := by
  intro i
  induction i using Nat.strongRecOn with
  | _ i ih =>
    intro hi j hj
    rcases Nat.eq_zero_or_pos i with rfl | h0
    · rw [X.zero] at hj ⊢
      have : j = 0 := by simpa using hj
      subst this
      show SL = splitHead (pathAt ps 0)
      rw [X.root]
      decide +kernel
    · obtain ⟨p, m, N, hp, ec, e, hN, hN0⟩ := X.kid i h0 hi
      rw [ec, List.map_cons]
      cases j with
      | zero =>
        rw [List.getD_cons_succ, List.getD_cons_zero]
        obtain ⟨r, er⟩ := X.tree.hd p (by omega)
        rw [er, List.map_cons, List.getD_cons_zero]
        refine (ls_inj ?_).symm
        exact splitHead_ls _ _ N m e hN (X.good (by omega)).2 (X.good (by omega)).1
      | succ j =>
        rw [List.getD_cons_succ, List.getD_cons_succ]
        rw [ec, List.length_cons] at hj
        exact ih p hp (by omega) j (by omega)
theorem PathTree.at (X : PathTree ps ch) {i j : Nat} (hi : i < ps.length) (hj : j < (ch i).length) : ∃ k, k < ps.length ∧ ((ch i).map (pathAt ps)).getD j SL = pathAt ps k := by
  refine ⟨(ch i)[j], ?_, ?_⟩
  · have := X.tree.le i hi _ (List.getElem_mem hj); omega
  · rw [List.getD_eq_getElem?_getD, List.getElem?_map, List.getElem?_eq_getElem hj]; rfl
theorem PathTree.anc (X : PathTree ps ch) (hlen : ∀ k, k < ps.length → (pathAt ps k).length ≤ 500) {i : Nat} (hi : i < ps.length) : AncOk (fun j => ((ch i).map (pathAt ps)).getD j SL) (ch i).length (pathAt ps i) := by
  have hend : ∀ j, (ch i).length ≤ j → ((ch i).map (pathAt ps)).getD j SL = SL := fun j hj => by
    rw [List.getD_eq_getElem?_getD, List.getElem?_eq_none (by simpa using hj)]; rfl
  refine ⟨?_, fun j hj => ⟨?_, X.next i hi j hj⟩, ?_, fun j hj => ?_, ?_⟩
  · obtain ⟨r, er⟩ := X.tree.hd i hi
    show ((ch i).map (pathAt ps)).getD 0 SL = _
    rw [er, List.map_cons, List.getD_cons_zero, X.rstrip hi]
  · show (((Txt.rstripChars (((ch i).map (pathAt ps)).getD j SL) SL).length : Int) != 0) = true
    obtain ⟨k, hk, e⟩ := X.at hi hj
    rw [e, X.rstrip hk, bne_iff_ne, ← ls_len]
    have := List.length_pos_iff.mpr (X.good hk).1
    omega
  · show (((Txt.rstripChars (((ch i).map (pathAt ps)).getD (ch i).length SL) SL).length : Int) != 0) = false
    rw [hend _ (Nat.le_refl _)]
    decide +kernel
  · show (((ch i).map (pathAt ps)).getD j SL).length ≤ 1000 ∧ (Txt.rstripChars (((ch i).map (pathAt ps)).getD j SL) SL).length ≤ 1000
    have hl : (((ch i).map (pathAt ps)).getD j SL).length ≤ 1000 := by
      rcases Nat.lt_or_ge j (ch i).length with h | h
      · obtain ⟨k, hk, e⟩ := X.at hi h
        rw [e]; have := hlen k hk; omega
      · rw [hend j h, SL_length]; decide
    exact ⟨hl, Nat.le_trans (len_rstripChars _ _) hl⟩
  · have := hlen i hi; omega
theorem PathTree.cov (X : PathTree ps ch) {k : Nat} (hk : k < ps.length) : ∀ i, i < ps.length → (uriB (pathAt ps k) (pathAt ps i) = true ↔ k ∈ ch i) := by
  intro i
  induction i using Nat.strongRecOn with
  | _ i ih =>
    intro hi
    obtain ⟨g1, g2⟩ := X.good hk
    have hself : ls (pathAt ps k) = ls (pathAt ps i) ↔ k = i := ⟨fun e => X.nodup k i hk hi (ls_inj e), fun e => by rw [e]⟩
    rw [uri_ls _ _ g2, hself]
    rcases Nat.eq_zero_or_pos i with rfl | h0
    · rw [X.zero, List.mem_singleton]
      refine ⟨fun h => h.elim id fun h => ?_, .inl⟩
      exfalso
      rw [X.root, show ls (Str.ofString "/s") = [47, 115] by decide +kernel] at h
      have hl := h.length_le
      revert h hl g1
      generalize ls (pathAt ps k) = A
      intro g1 h hl
      match A, g1, h, hl with
      | [x], _, h, _ => obtain ⟨t, e⟩ := h; simp at e
      | x :: y :: r, _, _, hl => simp at hl
    · obtain ⟨p, m, N, hp, ec, e, hN, hN0⟩ := X.kid i h0 hi
      rw [e, cover_step _ _ N m g2 hN g1, ec, List.mem_cons, ← ih p hp (by omega), uri_ls _ _ g2]
theorem pathAt_app_lt {q : Str} {i : Nat} (h : i < ps.length) : pathAt (ps ++ [q]) i = pathAt ps i := by
  unfold pathAt; rw [List.getD_eq_getElem?_getD, List.getD_eq_getElem?_getD, List.getElem?_append_left h]
theorem pathAt_app_eq {q : Str} : pathAt (ps ++ [q]) ps.length = q := by
  unfold pathAt; rw [List.getD_eq_getElem?_getD, List.getElem?_append_right (Nat.le_refl _)]; simp
theorem pathAt_mem {i : Nat} (h : i < ps.length) : pathAt ps i ∈ ps := by
  unfold pathAt; exact getD_mem h
theorem PathTree.snoc (X : PathTree ps ch) {q : Str} {p m : Nat} {N : List Nat} (hp : p < ps.length) (e : ls q = ls (pathAt ps p) ++ (List.replicate (m + 1) 47 ++ N)) (hN : 47 ∉ N) (hN0 : N ≠ []) (hq : q ∉ ps) :
    PathTree (ps ++ [q]) (fun i => if i = ps.length then i :: ch p else ch i) := by
  have hpos := X.pos
  refine ⟨by simp, by rw [if_neg (by omega)]; exact X.zero, by rw [pathAt_app_lt hpos]; exact X.root, fun i h0 hi => ?_, fun i j hi hj he => ?_⟩
  · have hi : i < ps.length + 1 := by simpa using hi
    by_cases hin : i = ps.length
    · subst hin
      refine ⟨p, m, N, hp, ?_, ?_, hN, hN0⟩
      · rw [if_pos rfl, if_neg (by omega)]
      · rw [pathAt_app_eq, pathAt_app_lt hp]; exact e
    · obtain ⟨p', m', N', h1, h2, h3, h4, h5⟩ := X.kid i h0 (by omega)
      refine ⟨p', m', N', h1, ?_, ?_, h4, h5⟩
      · rw [if_neg hin, if_neg (by omega)]; exact h2
      · rw [pathAt_app_lt (by omega), pathAt_app_lt (by omega)]; exact h3
  · have hi : i < ps.length + 1 := by simpa using hi
    have hj : j < ps.length + 1 := by simpa using hj
    by_cases h1 : i = ps.length
    · by_cases h2 : j = ps.length
      · omega
      · rw [h1, pathAt_app_eq, pathAt_app_lt (by omega)] at he
        exact absurd (he ▸ pathAt_mem (by omega)) hq
    · by_cases h2 : j = ps.length
      · rw [h2, pathAt_app_eq, pathAt_app_lt (by omega)] at he
        exact absurd (he ▸ pathAt_mem (by omega)) hq
      · rw [pathAt_app_lt (by omega), pathAt_app_lt (by omega)] at he
        exact X.nodup i j (by omega) (by omega) he
end

def TreeInv (st : List Str × List Int) : Prop := (∃ ch, PathTree st.1 ch) ∧ st.2.length = st.1.length ∧ (∀ x ∈ st.2, x ≠ 0 ∧ x.natAbs ≤ 9) ∧ ∀ x ∈ st.1, ∀ c ∈ ls x, c < 0x110000
theorem treeNames_facts (i : Nat) (h : i < 4) : 47 ∉ ls (treeNames.getD i Str.empty) ∧ ls (treeNames.getD i Str.empty) ≠ [] ∧ ∀ c ∈ ls (treeNames.getD i Str.empty), c < 0x110000 := by
  match i, h with
  | 0, _ => decide +kernel
  | 1, _ => decide +kernel
  | 2, _ => decide +kernel
  | 3, _ => decide +kernel
theorem slashes_ls {y : Int} (h0 : 0 ≤ y) (h1 : y < 2) : ∃ m, ls (Txt.mul SL (1 + y)) = List.replicate (m + 1) 47 := by
  have : y = 0 ∨ y = 1 := by omega
  rcases this with rfl | rfl
  · exact ⟨0, by decide +kernel⟩
  · exact ⟨1, by decide +kernel⟩
theorem treeWorth_facts (ps : List Str) (x : Int) : treeWorth ps x ≠ 0 ∧ (treeWorth ps x).natAbs ≤ 9 := by
  have h := fmod_lt (a := (((x.fdiv ps.length).fdiv 2).fdiv 4)) (n := 18) (by decide)
  rw [show ((18 : Nat) : Int) = 18 from rfl] at h
  unfold treeWorth
  split <;> omega
theorem tree0_inv : TreeInv tree0 := by
  refine ⟨⟨fun i => if i = 0 then [0] else [1, 0], ?_⟩, by decide, by decide, by decide +kernel⟩
  have h0 : pathAt tree0.1 0 = Str.ofString "/s" := by decide +kernel
  have h1 : pathAt tree0.1 1 = Str.ofString "/s/sa" := by decide +kernel
  refine ⟨by decide, rfl, h0, fun i hi0 hi => ?_, fun i j hi hj e => ?_⟩
  · have hi : i < 2 := hi
    have : i = 1 := by omega
    subst this
    refine ⟨0, 0, [115, 97], by decide, rfl, ?_, by decide, by decide⟩
    rw [h0, h1]; decide +kernel
  · have hi : i < 2 := hi
    have hj : j < 2 := hj
    have ne : Str.ofString "/s" ≠ Str.ofString "/s/sa" := by decide +kernel
    have : (i = 0 ∨ i = 1) ∧ (j = 0 ∨ j = 1) := by omega
    obtain ⟨rfl | rfl, rfl | rfl⟩ := this
    · rfl
    · rw [h0, h1] at e; exact absurd e ne
    · rw [h0, h1] at e; exact absurd e.symm ne
    · rfl
theorem treeStep_inv {st : List Str × List Int} {x : Int} (h : TreeInv st) : TreeInv (treeStep st x) := by
  obtain ⟨⟨ch, X⟩, h2, h3, h4⟩ := h
  unfold treeStep
  split
  · exact ⟨⟨ch, X⟩, h2, h3, h4⟩
  · rename_i hin
    have hpos := X.pos
    have g1 := fmod_lt (a := x) (n := st.1.length) (by omega)
    have g2 := fmod_lt (a := x.fdiv st.1.length) (n := 2) (by omega)
    have g3 := fmod_lt (a := (x.fdiv st.1.length).fdiv 2) (n := 4) (by omega)
    rw [show ((2 : Nat) : Int) = 2 from rfl] at g2
    rw [show ((4 : Nat) : Int) = 4 from rfl] at g3
    obtain ⟨m, hm⟩ := slashes_ls g2.1 g2.2.1
    obtain ⟨n1, n2, n3⟩ := treeNames_facts _ g3.2.2
    have e : ls (treePath st.1 x) = ls (pathAt st.1 (x.fmod st.1.length).toNat) ++ (List.replicate (m + 1) 47 ++ ls (treeNames.getD (((x.fdiv st.1.length).fdiv 2).fmod 4).toNat Str.empty)) := by
      unfold treePath
      rw [ls_app, ls_app, hm, List.append_assoc]; rfl
    have hq : treePath st.1 x ∉ st.1 := fun hm => hin (List.any_eq_true.mpr ⟨_, hm, by simp⟩)
    refine ⟨⟨_, X.snoc g1.2.2 e n1 n2 hq⟩, by simp [h2], fun y hy => ?_, fun y hy c hc => ?_⟩
    · rcases List.mem_append.mp hy with hy | hy
      · exact h3 y hy
      · rw [List.mem_singleton.mp hy]; exact treeWorth_facts _ _
    · rcases List.mem_append.mp hy with hy | hy
      · exact h4 y hy c hc
      · rw [List.mem_singleton.mp hy, e] at hc
        rcases List.mem_append.mp hc with hc | hc
        · exact h4 _ (pathAt_mem g1.2.2) c hc
        · rcases List.mem_append.mp hc with hc | hc
          · rw [(List.mem_replicate.mp hc).2]; decide
          · exact n3 c hc
theorem treeFold_inv : ∀ (l : List Int) (st : List Str × List Int), TreeInv st → TreeInv (l.foldl treeStep st)
  | [], _, h => h
  | _ :: r, _, h => treeFold_inv r _ (treeStep_inv h)

/-- the plain law -/
theorem plain (ns : List Int) : ∃ ch n, LawOk (tree ns).1 (tree ns).2 ch n := by
  obtain ⟨⟨ch, X⟩, hl, hw, hc⟩ : TreeInv (tree ns) := treeFold_inv _ _ tree0_inv
  obtain ⟨t1, t2, t3⟩ : TreeOk 6 (tree ns) := by
    have := treeTake_ok (ns.take 6) 6
    rwa [show (ns.take 6).take 6 = ns.take 6 from List.take_of_length_le (by rw [List.length_take]; omega)] at this
  refine ⟨ch, (tree ns).1.length, ?_⟩
  revert X hl hw hc t1 t2 t3
  generalize (tree ns).1 = ps
  generalize (tree ns).2 = ws
  intro X hl hw hc t1 t2 t3
  have T := X.tree
  have hlen : ∀ k, k < ps.length → (pathAt ps k).length ≤ 500 := fun k hk => by have := t3 _ (pathAt_mem hk); omega
  have hwk : ∀ k, k < ps.length → worthAt ws k ≠ 0 ∧ (worthAt ws k).natAbs ≤ 9 := fun k hk => by
    have := worthAt_get hl hk
    exact hw _ (List.mem_of_getElem? this)
  refine ⟨rfl, hl, t1, t2, fun k hk => ⟨hlen k hk, ?_⟩, X.nodup, fun i hi => X.anc hlen hi, fun i hi k hk => ?_, fun i hi => ?_, fun k i hk hi => ?_, fun i j hi hj => ?_, fun i j hi hj => T.apt hi hj, fun k hk => (hwk k hk).2,
    T.det1 hl t1 t2 (fun k hk => (hwk k hk).1) fun k hk => (hwk k hk).2, T.det2 hl t1 t2 (fun k hk => (hwk k hk).1) fun k hk => (hwk k hk).2⟩
  · unfold PyData.strOk
    rw [Array.all_eq_true']
    intro c hcm
    exact decide_eq_true (hc _ (pathAt_mem hk) c (by show c ∈ (pathAt ps k).cps.toList; exact Array.mem_toList_iff.mpr hcm))
  · have := T.le i hi k hk; omega
  · have := T.len i hi; omega
  · rw [Bool.eq_iff_iff, decide_eq_true_eq]; exact X.cov hk i hi
  · intro e
    have := List.filter_eq_nil_iff.mp e 0 (T.root i hi)
    exact this (decide_eq_true (T.root j hj))

end

end Mine

theorem PySem.Challenge.cw_in0148_01_holds : PySem.Challenge.rw_in0148_01.Holds := by
  exact Mine.top Mine.plain
