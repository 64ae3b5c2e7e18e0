import PyProof.Rows.All
import Wide.All
import OpenK.AllK
import Wide.FinOn
import PyProof.FactsAll.str_3
import PyProof.FactsAll.list
import PyProof.FactsAll.bool
import Lean
import PySem.Challenge.RW_dh5005_01
set_option Elab.async false

section
/-! M0: the ghost map, the ledger of the things that may change, the state. -/
set_option maxRecDepth 100000
namespace Mine
open PySem PySem.Calls PyProof.Rows

/-- what stands still: a partial map of addresses -/
abbrev Fz := Addr → Option Obj
def Fz.Le (F G : Fz) : Prop := ∀ b o, F b = some o → G b = some o
def Fz.In (F : Fz) (h : Heap) : Prop := ∀ b o, F b = some o → h.get? b = some o
def Fz.put (F : Fz) (a : Addr) (o : Obj) : Fz := fun b => if b = a then some o else F b
theorem Fz.Le.refl (F : Fz) : F.Le F := fun _ _ e => e
theorem Fz.Le.trans {F G K : Fz} (x : F.Le G) (y : G.Le K) : F.Le K := fun b o e => y b o (x b o e)
theorem Fz.Le.inn {F G : Fz} {h : Heap} (x : F.Le G) (y : G.In h) : F.In h := fun b o e => y b o (x b o e)
theorem Fz.put_self (F : Fz) (a : Addr) (o : Obj) : F.put a o a = some o := if_pos rfl
theorem Fz.put_le {F : Fz} {a : Addr} {o : Obj} (h : F a = none) : F.Le (F.put a o) := fun b o' e => by
  unfold Fz.put
  by_cases hb : b = a
  · rw [hb, h] at e; cases e
  · rw [if_neg hb]; exact e

/-- what may change: an address and what is known of the object there -/
abbrev Mu := List (Addr × (Obj → Prop))

structure Cx where
  base : Heap
  old : Fz
  F0 : Fz
  os : OsState

structure St0 (c : Cx) (F : Fz) (mu : Mu) (s : Shared) : Prop where
  base : ∀ b o, c.base.get? b = some o → F b = some o
  inn : F.In s.heap
  old : c.old.In s.heap
  le0 : c.F0.Le F
  new : ∀ b, c.old b ≠ none → F b = c.F0 b
  at' : ∀ p ∈ mu, ∃ o, s.heap.get? p.1 = some o ∧ p.2 o
  fr : ∀ p ∈ mu, F p.1 = none ∧ c.old p.1 = none
  nd : (mu.map (·.1)).Nodup
  os : s.os = c.os
  gens : s.gens = #[]

section
variable {c : Cx} {F : Fz} {mu mu' : Mu} {s s' : Shared} {a : Addr} {P P' : Obj → Prop} {o : Obj}

theorem St0.same (S : St0 c F mu s) (hh : s'.heap = s.heap) (ho : s'.os = s.os) (hg : s'.gens = s.gens) : St0 c F mu s' :=
  ⟨S.base, hh ▸ S.inn, hh ▸ S.old, S.le0, S.new, hh ▸ S.at', S.fr, S.nd, ho.trans S.os, hg.trans S.gens⟩
theorem St0.tok (S : St0 c F mu s) (k : Nat) : St0 c F mu { s with toks := k } := S.same rfl rfl rfl
theorem St0.perm (S : St0 c F mu s) (h : mu.Perm mu') : St0 c F mu' s :=
  ⟨S.base, S.inn, S.old, S.le0, S.new, fun p hp => S.at' p (h.mem_iff.mpr hp), fun p hp => S.fr p (h.mem_iff.mpr hp), (h.map _).nodup_iff.mp S.nd, S.os, S.gens⟩
theorem St0.tail (S : St0 c F ((a, P) :: mu) s) : St0 c F mu s :=
  ⟨S.base, S.inn, S.old, S.le0, S.new, fun p hp => S.at' p (.tail _ hp), fun p hp => S.fr p (.tail _ hp), (List.nodup_cons.mp S.nd).2, S.os, S.gens⟩
theorem St0.drop2 {f : Addr × (Obj → Prop)} (S : St0 c F (f :: (a, P) :: mu) s) : St0 c F (f :: mu) s := (S.perm (List.Perm.swap _ _ _)).tail
theorem St0.swap {x y : Addr × (Obj → Prop)} (S : St0 c F (x :: y :: mu) s) : St0 c F (y :: x :: mu) s := S.perm (List.Perm.swap _ _ _)
theorem St0.rot {x y z : Addr × (Obj → Prop)} (S : St0 c F (x :: y :: z :: mu) s) : St0 c F (z :: x :: y :: mu) s :=
  S.perm (((List.Perm.swap z y mu).cons x).trans (List.Perm.swap z x (y :: mu)))
theorem St0.weak (S : St0 c F ((a, P) :: mu) s) (h : ∀ o, P o → P' o) : St0 c F ((a, P') :: mu) s :=
  ⟨S.base, S.inn, S.old, S.le0, S.new, fun p hp => by
    rcases List.mem_cons.mp hp with rfl | hp
    · obtain ⟨o, h1, h2⟩ := S.at' _ (List.mem_cons_self); exact ⟨o, h1, h _ h2⟩
    · exact S.at' p (.tail _ hp), fun p hp => by
    rcases List.mem_cons.mp hp with rfl | hp
    · exact S.fr (a, P) (List.mem_cons_self)
    · exact S.fr p (.tail _ hp), S.nd, S.os, S.gens⟩
theorem St0.hd (S : St0 c F ((a, P) :: mu) s) : ∃ o, s.heap.get? a = some o ∧ P o := S.at' _ (List.mem_cons_self)
theorem St0.ne (S : St0 c F ((a, P) :: mu) s) : ∀ p ∈ mu, p.1 ≠ a := fun p hp e => (List.nodup_cons.mp S.nd).1 (List.mem_map.mpr ⟨p, hp, e⟩)
/-- the address is used by nobody: fresh -/
theorem St0.fresh_ne (S : St0 c F mu s) (hn : s.heap.get? a = none) : F a = none ∧ c.old a = none ∧ ∀ p ∈ mu, p.1 ≠ a := by
  refine ⟨?_, ?_, fun p hp e => ?_⟩
  · cases h : F a with
    | none => rfl
    | some o => rw [S.inn _ _ h] at hn; cases hn
  · cases h : c.old a with
    | none => rfl
    | some o => rw [S.old _ _ h] at hn; cases hn
  · obtain ⟨o, ho, _⟩ := S.at' p hp
    rw [e, hn] at ho; cases ho
/-- a change at one address -/
theorem St0.upd (S : St0 c F ((a, P) :: mu) s) (hk : ∀ b o, b ≠ a → s.heap.get? b = some o → s'.heap.get? b = some o) (hn : ∃ o, s'.heap.get? a = some o ∧ P' o)
    (ho : s'.os = s.os) (hg : s'.gens = s.gens) : St0 c F ((a, P') :: mu) s' := by
  have fa := S.fr _ (List.mem_cons_self)
  refine ⟨S.base, fun b o e => hk b o (fun q => ?_) (S.inn b o e), fun b o e => hk b o (fun q => ?_) (S.old b o e), S.le0, S.new, fun p hp => ?_, fun p hp => ?_, S.nd, ho.trans S.os, hg.trans S.gens⟩
  · rw [q] at e; rw [fa.1] at e; cases e
  · rw [q] at e; rw [fa.2] at e; cases e
  · rcases List.mem_cons.mp hp with rfl | hp
    · exact hn
    · obtain ⟨o, h1, h2⟩ := S.at' p (.tail _ hp)
      exact ⟨o, hk _ _ (S.ne p hp) h1, h2⟩
  · rcases List.mem_cons.mp hp with rfl | hp
    · exact fa
    · exact S.fr p (.tail _ hp)
/-- nothing is lost, nothing is gained -/
theorem St0.keep (S : St0 c F mu s) (hk : ∀ b o, s.heap.get? b = some o → s'.heap.get? b = some o) (ho : s'.os = s.os) (hg : s'.gens = s.gens) : St0 c F mu s' :=
  ⟨S.base, fun b o e => hk b o (S.inn b o e), fun b o e => hk b o (S.old b o e), S.le0, S.new, fun p hp => by
    obtain ⟨o, h1, h2⟩ := S.at' p hp; exact ⟨o, hk _ _ h1, h2⟩, S.fr, S.nd, ho.trans S.os, hg.trans S.gens⟩
/-- a new thing -/
theorem St0.new_at (S : St0 c F mu s) (hn : s.heap.get? a = none) (hk : ∀ b o, s.heap.get? b = some o → s'.heap.get? b = some o) (h : ∃ o, s'.heap.get? a = some o ∧ P o)
    (ho : s'.os = s.os) (hg : s'.gens = s.gens) : St0 c F ((a, P) :: mu) s' := by
  obtain ⟨f1, f2, f3⟩ := S.fresh_ne hn
  have K := S.keep hk ho hg
  refine ⟨K.base, K.inn, K.old, K.le0, K.new, fun p hp => ?_, fun p hp => ?_, List.nodup_cons.mpr ⟨fun q => ?_, S.nd⟩, K.os, K.gens⟩
  · rcases List.mem_cons.mp hp with rfl | hp
    · exact h
    · exact K.at' p hp
  · rcases List.mem_cons.mp hp with rfl | hp
    · exact ⟨f1, f2⟩
    · exact S.fr p hp
  · obtain ⟨p, hp, e⟩ := List.mem_map.mp q
    exact f3 p hp e
theorem St0.push (S : St0 c F mu s) (o : Obj) (hf : o.isFreed = false) (hP : P o) : St0 c F ((s.heap.objs.size, P) :: mu) { s with heap := s.heap.push o } := by
  refine S.new_at ?_ (fun b o e => Heap.get?_push_of_some _ e) ⟨o, Heap.get?_push_size _ hf, hP⟩ rfl rfl
  cases h : s.heap.get? s.heap.objs.size with
  | none => rfl
  | some o => exact absurd (Heap.lt_size h) (Nat.lt_irrefl _)
/-- a thing that will change no more -/
theorem St0.freeze (S : St0 c F ((a, P) :: mu) s) : ∃ o, P o ∧ F.Le (F.put a o) ∧ F.put a o a = some o ∧ St0 c (F.put a o) mu s := by
  obtain ⟨o, ho, hP⟩ := S.hd
  have fa := S.fr _ (List.mem_cons_self)
  have hle := Fz.put_le (F := F) (a := a) (o := o) fa.1
  refine ⟨o, hP, hle, Fz.put_self _ _ _, fun b o' e => hle _ _ (S.base b o' e), fun b o' e => ?_, S.old, S.le0.trans hle, fun b hb => ?_, S.tail.at', fun p hp => ⟨?_, (S.tail.fr p hp).2⟩, S.tail.nd, S.os, S.gens⟩
  · unfold Fz.put at e
    by_cases q : b = a
    · rw [if_pos q] at e; cases e; rw [q]; exact ho
    · rw [if_neg q] at e; exact S.inn b o' e
  · unfold Fz.put
    by_cases q : b = a
    · rw [q] at hb; exact absurd fa.2 hb
    · rw [if_neg q]; exact S.new b hb
  · unfold Fz.put
    rw [if_neg (S.ne p hp)]; exact (S.tail.fr p hp).1
end

/-- what a call leaves behind -/
structure Out (s : Shared) (F : Fz) (s' : Shared) (F' : Fz) : Prop where
  le : F.Le F'
  inn : F'.In s'.heap
  old : ∀ b o, s.heap.get? b = some o → s'.heap.get? b = some o
  new : ∀ b, s.heap.get? b ≠ none → F' b = F b
  os : s'.os = s.os
  gens : s'.gens = s.gens

section
variable {c : Cx} {F F' : Fz} {mu : Mu} {s s' : Shared}
theorem Out.refl (h : F.In s.heap) : Out s F s F := ⟨.refl _, h, fun _ _ e => e, fun _ _ => rfl, rfl, rfl⟩
theorem St0.after (S : St0 c F mu s) (O : Out s F s' F') : St0 c F' mu s' := by
  have K := S.keep O.old O.os O.gens
  refine ⟨fun b o e => O.le _ _ (S.base b o e), O.inn, K.old, S.le0.trans O.le, fun b hb => ?_, K.at', fun p hp => ⟨?_, (S.fr p hp).2⟩, S.nd, K.os, K.gens⟩
  · rw [O.new b (fun e => ?_)]
    · exact S.new b hb
    · cases h : c.old b with
      | none => exact hb h
      | some o => rw [S.old _ _ h] at e; cases e
  · obtain ⟨o, ho, _⟩ := S.at' p hp
    rw [O.new p.1 (by rw [ho]; exact fun e => nomatch e)]
    exact (S.fr p hp).1
/-- the state within: all that stands is old -/
def Cx.within (c : Cx) (F : Fz) (s : Shared) : Cx := { c with old := fun b => s.heap.get? b, F0 := F }
theorem St0.start (S : St0 c F mu s) : St0 (c.within F s) F [] s :=
  ⟨S.base, S.inn, fun _ _ e => e, .refl _, fun _ _ => rfl, (fun _ hp => nomatch hp), (fun _ hp => nomatch hp), List.nodup_nil, S.os, S.gens⟩
theorem St0.out {s₀ : Shared} {F₀ : Fz} (S : St0 (c.within F₀ s₀) F mu s) (ho : s₀.os = c.os) (hg : s₀.gens = #[]) : Out s₀ F₀ s F :=
  ⟨S.le0, S.inn, S.old, S.new, S.os.trans ho.symm, S.gens.trans hg.symm⟩
end
end Mine
end

section
/-! M1: frames, names, calls of the text's own functions. -/
set_option maxRecDepth 100000
namespace Mine
open PySem PySem.Calls PyProof.Rows

def nsIs (m : PySem.Str → Option Value) (o : Obj) : Prop := ∃ es ep, o.data = .dict es ep ∧ StrKeys es ∧ ∀ n, nsFind es n = m n
def upd (m : PySem.Str → Option Value) (x : PySem.Str) (v : Value) : PySem.Str → Option Value := fun y => if y = x then some v else m y
abbrev St (c : Cx) (F : Fz) (L : Addr) (m : PySem.Str → Option Value) (mu : Mu) (s : Shared) : Prop := St0 c F ((L, nsIs m) :: mu) s
def cellIs (v : Option Value) (o : Obj) : Prop := o.data = .cell v

structure EnvOk (env : Env) (sc : Scope) : Prop where
  scope : env.scope = sc
  globals : env.globals = mainGlobals
  builtins : env.builtins = builtinsNs

structure Bs (H : Heap) (mg mb : PySem.Str → Option Value) : Prop where
  g : H.Ns mainGlobals mg
  b : H.Ns builtinsNs mb
  lim : H.NoLimit
  builtins : ∀ x : PySem.Str, x ≠ "__name__" → mb x = bootBuiltins x

theorem St0.keepsH {c : Cx} {F : Fz} {mu : Mu} {s : Shared} (S : St0 c F mu s) : ∀ b o, c.base.get? b = some o → s.heap.get? b = some o := fun b o e => S.inn b o (S.base b o e)

section
variable {c : Cx} {F : Fz} {L : Addr} {m : PySem.Str → Option Value} {mu : Mu} {s : Shared}
theorem St.ns (S : St c F L m mu s) : s.heap.Ns L m := by
  obtain ⟨o, ho, es, ep, h1, h2, h3⟩ := S.hd
  exact ⟨o, es, ep, ho, h1, h2, h3⟩
theorem St.set {m' : PySem.Str → Option Value} {h' : Heap} (S : St c F L m mu s) (hn : h'.Ns L m') (hs : Heap.SameBut L s.heap h') (k : Nat) : St c F L m' mu { s with heap := h', toks := k } := by
  obtain ⟨o, es, ep, ho, h1, h2, h3⟩ := hn
  exact S.upd (s' := { s with heap := h', toks := k }) (fun b o hb e => (hs.2 b hb).trans e) ⟨o, ho, es, ep, h1, h2, h3⟩ rfl rfl
end

section
variable {M : Model} {A : Around} {E : Value → Shared → Prop} {c : Cx} {F : Fz} {m mg mb : PySem.Str → Option Value} {mu : Mu} {s : Shared} {env : Env} {sc : Scope}

theorem EnvOk.kind {x : PySem.Str} {k : NameKind} (he : EnvOk env sc) (h : sc.names.lookup x = some k) : env.kindOf x = some k := by
  unfold Env.kindOf; rw [he.scope]; exact h

theorem ld' {x : PySem.Str} {pos : Pos} {v : Value} {Q : Value → Shared → Prop} (S : St c F env.locals m mu s) (he : EnvOk env sc) (hv : m x = some v) (h : Q v s)
    (hk : sc.kind = .function := by rfl) (hl : sc.names.lookup x = some .local := by rfl) (hd : (x == ("__debug__" : PySem.Str)) = false := by decide) :
    wpAny M A (eval (.Name x pos) env) Q E s :=
  wpAny_Name (wpAny_loadName_local (by rw [he.scope]; exact hk) (he.kind hl) (St.ns S) hv h) hd
theorem ldn' {x : PySem.Str} {v : Value} {Q : Value → Shared → Prop} (S : St c F env.locals m mu s) (he : EnvOk env sc) (hv : m x = some v) (h : Q v s)
    (hk : sc.kind = .function := by rfl) (hl : sc.names.lookup x = some .local := by rfl) :
    wpAny M A (loadName env x) Q E s :=
  wpAny_loadName_local (by rw [he.scope]; exact hk) (he.kind hl) (St.ns S) hv h
theorem st' {x : PySem.Str} {v : Value} {Q : Unit → Shared → Prop} (S : St c F env.locals m mu s) (he : EnvOk env sc)
    (h : ∀ s', St c F env.locals (upd m x v) mu s' → Q () s')
    (hk : sc.kind = .function := by rfl) (hl : sc.names.lookup x = some .local := by rfl) : wpAny M A (storeName env x v) Q E s :=
  wpAny_storeName_local (he.kind hl) (St.ns S) (fun h' hn hs => h _ (St.set S hn hs _))
    (by rw [he.scope, hk]; rfl)
/-- a name that comprehensions see: a cell -/
theorem ldc' {x : PySem.Str} {pos : Pos} {v : Value} {a : Addr} {Q : Value → Shared → Prop} (he : EnvOk env sc) (hc : env.cells.lookup x = some a) (hv : s.heap.IsCell a (some v)) (h : Q v s)
    (hk : sc.kind = .function := by rfl) (hl : sc.names.lookup x = some .cell := by rfl) (hd : (x == ("__debug__" : PySem.Str)) = false := by decide) :
    wpAny M A (eval (.Name x pos) env) Q E s :=
  wpAny_Name (wpAny_loadName_cell (by rw [he.scope]; exact hk) (he.kind hl) hc hv h) hd
theorem stc' {x : PySem.Str} {v : Value} {a : Addr} {L : Addr} {v₀ : Option Value} {Q : Unit → Shared → Prop} (S : St c F L m ((a, cellIs v₀) :: mu) s) (he : EnvOk env sc) (hc : env.cells.lookup x = some a)
    (h : ∀ s', St c F L m ((a, cellIs (some v)) :: mu) s' → Q () s')
    (hk : sc.kind = .function := by rfl) (hl : sc.names.lookup x = some .cell := by rfl) : wpAny M A (storeName env x v) Q E s := by
  obtain ⟨o, ho, hd⟩ := S.swap.hd
  refine wpAny_storeName_cell (by rw [he.scope]; exact hk) (he.kind hl) hc ⟨o, ho, hd⟩ fun h' hc' hs => h _ ?_
  obtain ⟨o', ho', hd'⟩ := hc'
  exact (S.swap.upd (s' := { s with heap := h' }) (fun b o hb e => (hs.2 b hb).trans e) ⟨o', ho', hd'⟩ rfl rfl).swap
theorem ldfr' {x : PySem.Str} {pos : Pos} {v : Value} {a : Addr} {Q : Value → Shared → Prop} (he : EnvOk env sc) (hc : env.cells.lookup x = some a) (hv : s.heap.IsCell a (some v)) (h : Q v s)
    (hk : sc.kind = .function := by rfl) (hl : sc.names.lookup x = some .free := by rfl) (hd : (x == ("__debug__" : PySem.Str)) = false := by decide) (hn : (x == ("__classdict__" : PySem.Str)) = false := by decide) :
    wpAny M A (eval (.Name x pos) env) Q E s :=
  wpAny_Name (wpAny_loadName_free (by rw [he.scope]; exact hk) (he.kind hl) hc hv h hn) hd

theorem ldg' {x : PySem.Str} {pos : Pos} {v : Value} {Q : Value → Shared → Prop} (S : St0 c F mu s) (B : Bs c.base mg mb) (he : EnvOk env sc) (hv : mg x = some v) (h : Q v s)
    (hk : sc.kind = .function := by rfl) (hl : sc.names.lookup x = some .globalImplicit := by rfl) (hd : (x == ("__debug__" : PySem.Str)) = false := by decide) :
    wpAny M A (eval (.Name x pos) env) Q E s :=
  Name_function_global (by rw [he.scope]; exact hk) (he.kind hl) (loadGlobal_global (env := env) (by rw [he.globals]; exact B.g.keeps S.keepsH) hv h) hd
theorem ldb' {x : PySem.Str} {pos : Pos} {v : Value} {Q : Value → Shared → Prop} (S : St0 c F mu s) (B : Bs c.base mg mb) (he : EnvOk env sc) (hv : mg x = none) (h : Q v s)
    (hb : bootBuiltins x = some v) (hn : x ≠ "__name__" := by decide)
    (hk : sc.kind = .function := by rfl) (hl : sc.names.lookup x = some .globalImplicit := by rfl) (hd : (x == ("__debug__" : PySem.Str)) = false := by decide) :
    wpAny M A (eval (.Name x pos) env) Q E s :=
  Name_function_global (by rw [he.scope]; exact hk) (he.kind hl) (loadGlobal_builtin (env := env) (by rw [he.globals]; exact B.g.keeps S.keepsH) hv
    (by rw [he.builtins]; exact B.b.keeps S.keepsH) ((B.builtins x hn).trans hb) h) hd
end

/-- a function of the text, as the base heap bears it -/
structure FnAt (H : Heap) (mg : PySem.Str → Option Value) (name : PySem.Str) (st : Stmt) (f : Addr) (fd : FuncData) : Prop where
  at' : mg name = some (.ref f)
  obj : ∃ o, H.get? f = some o ∧ o.data = .func fd
  code : H.CodeRec fd.code fd.qualname
  params : (match st with | .FunctionDef _ a .. => fd.params = a | _ => False)
  body : (match st with | .FunctionDef _ _ b .. => fd.body = .stmts b | _ => False)
  scope : (match st with | .FunctionDef _ _ _ _ _ _ sc .. => fd.scope = sc | _ => False)
  globals : fd.globals = mainGlobals
  builtins : fd.builtins = builtinsNs
  closure : fd.closure = []
  dflt : fd.defaults = .none
  kwd : fd.kwdefaults = .none

def fBody : Stmt → List Stmt
  | .FunctionDef _ _ b .. => b
  | _ => []
def fScope : Stmt → Scope
  | .FunctionDef _ _ _ _ _ _ sc .. => sc
  | _ => default
def fArgs : Stmt → Arguments
  | .FunctionDef _ a .. => a
  | _ => default
def nth (n : Nat) : Stmt := match PySem.Challenge.pw_dh5005_01.main.body.drop n with | st :: _ => st | [] => .Pass default

/-- room for calls -/
structure Rm (A : Around) (k : Nat) : Prop where
  hd : A.handled = none
  depth : A.depth + k ≤ 990
  units : A.units + 10 * k ≤ 9890
theorem Rm.deeper {A : Around} {k : Nat} (h : Rm A (k + 1)) (env : Env) : Rm (A.deeper env) k := ⟨h.hd, by have := h.depth; simp only [Around.deeper]; omega, by have := h.units; simp only [Around.deeper]; omega⟩
theorem Rm.in1 {A : Around} {k : Nat} (h : Rm A (k + 1)) : Rm A.in1 k := ⟨h.hd, by have := h.depth; simp only [Around.in1_depth]; omega, by have := h.units; simp only [Around.in1_units]; omega⟩
theorem Rm.le {A : Around} {k j : Nat} (h : Rm A k) (hj : j ≤ k) : Rm A j := ⟨h.hd, by have := h.depth; omega, by have := h.units; omega⟩
theorem Rm.room {A : Around} {k : Nat} (h : Rm A k) : A.depth < recursionLimit := by have := h.depth; show A.depth < 1000; omega
theorem Rm.c {A : Around} {k : Nat} (h : Rm A k) : A.units < cLine := by have := h.units; show A.units < 9900; omega

/-- what a call's end says -/
def Res (s : Shared) (F : Fz) (P : Fz → Value → Prop) (r : Result) (s' : Shared) : Prop := ∃ v F', r = .ok (.ret v) ∧ Out s F s' F' ∧ P F' v

structure Pre (H : Heap) (F : Fz) (s : Shared) : Prop where
  base : ∀ b o, H.get? b = some o → F b = some o
  inn : F.In s.heap
  gens : s.gens = #[]
theorem St0.pre {c : Cx} {F : Fz} {mu : Mu} {s : Shared} (S : St0 c F mu s) : Pre c.base F s := ⟨S.base, S.inn, S.gens⟩
def cx (H : Heap) (F : Fz) (s : Shared) : Cx := ⟨H, fun b => s.heap.get? b, F, s.os⟩
theorem Pre.start {H : Heap} {F : Fz} {s : Shared} (p : Pre H F s) : St0 (cx H F s) F [] s :=
  ⟨p.base, p.inn, fun _ _ e => e, .refl _, fun _ _ => rfl, (fun _ hp => nomatch hp), (fun _ hp => nomatch hp), List.nodup_nil, rfl, p.gens⟩
theorem Pre.out {H : Heap} {F F' : Fz} {mu : Mu} {s s' : Shared} (p : Pre H F s) (S : St0 (cx H F s) F' mu s') : Out s F s' F' :=
  ⟨S.le0, S.inn, S.old, S.new, S.os, S.gens.trans p.gens.symm⟩

section
variable {prog : Program} {w : World} {A : Around} {E : Value → Shared → Prop} {c : Cx} {F : Fz} {mu : Mu} {s : Shared}

theorem callS {f : Addr} {vs : List Value} {P : Fz → Value → Prop} {Q : Value → Shared → Prop} (S : St0 c F mu s)
    (hc : codeAny (model prog w) A (.call (.ref f) ⟨vs, []⟩) (Res s F P) s) (h : ∀ v F' s', F.Le F' → St0 c F' mu s' → P F' v → Q v s') : wpAny (model prog w) A (call (.ref f) vs) Q E s := by
  refine wpAny_call (codeAny_mono hc ?_)
  rintro r s' ⟨v, F', rfl, O, hP⟩
  exact h v F' s' O.le (S.after O) hP

/-- into a function without cells -/
theorem enter {H : Heap} {mg mb : PySem.Str → Option Value} {name : PySem.Str} {st : Stmt} {f : Addr} {fd : FuncData} {vals : List Value} {binds : List (PySem.Str × Value)} {P : Fz → Value → Prop} {k : Nat}
    (B : Bs H mg mb) (X : FnAt H mg name st f fd) (p : Pre H F s) (hr : Rm A (k + 1)) (hbind : BindsTo s fd ⟨vals, []⟩ binds)
    (h : ∀ env s', EnvOk env (fScope st) → St (cx H F s) F env.locals (fun y => binds.reverse.lookup y) [] s' → Rm (A.deeper env) k →
      wpAny (model prog w) (A.deeper env) (execs (fBody st) env) (fun fl s' => ∃ L m mu F', St (cx H F s) F' L m mu s' ∧ P F' (match fl with | .ret v => v | _ => .none)) (fun _ _ => False) s')
    (hcell : (fScope st).names.all (fun x => x.2 != .cell) = true := by rfl) (hloc : binds.all (fun x => decide ((fScope st).names.lookup x.1 = some .local)) = true := by rfl)
    (hco : (fScope st).isCoroutine = false := by rfl) (hgen : (fScope st).isGenerator = false := by rfl) (hk : (fScope st).kind = .function := by rfl) :
    codeAny (model prog w) A (.call (.ref f) ⟨vals, []⟩) (Res s F P) s := by
  obtain ⟨o, ho, hd⟩ := X.obj
  have hsc : fd.scope = fScope st := by
    have := X.scope; cases st <;> first | exact this | exact this.elim
  have hbd : fd.body = .stmts (fBody st) := by
    have := X.body; cases st <;> first | exact this | exact this.elim
  have K : ∀ b o, H.get? b = some o → s.heap.get? b = some o := fun b o e => p.inn b o (p.base b o e)
  refine codeAny_call_def (fd := fd) (body := fBody st) (binds := binds) hr.room (K _ _ ho) hd (B.lim.keeps K) (X.code.keeps K) hbd hbind
    (fun x hx => ?_) (fun x hx => ?_) (fun h₁ hns hk₁ => ?_) (by rw [hsc]; exact hco) (by rw [hsc]; exact hgen) (by rw [hsc]; exact hk)
  · rw [hsc] at hx
    have := List.all_eq_true.mp hcell x hx
    simpa using this
  · rw [hsc]; exact of_decide_eq_true (List.all_eq_true.mp hloc x hx)
  · have S₁ : St (cx H F s) F s.heap.objs.size (fun y => binds.reverse.lookup y) [] { s with heap := h₁, toks := s.toks + binds.length } := by
      obtain ⟨o', es, ep, ho', h1, h2, h3⟩ := hns
      refine p.start.new_at ?_ hk₁ ⟨o', ho', es, ep, h1, h2, h3⟩ rfl rfl
      cases q : s.heap.get? s.heap.objs.size with
      | none => rfl
      | some o => exact absurd (Heap.lt_size q) (Nat.lt_irrefl _)
    have he : EnvOk (callEnv fd s.heap.objs.size f) (fScope st) := ⟨hsc, X.globals, X.builtins⟩
    refine wpAny_mono (h (callEnv fd s.heap.objs.size f) _ he S₁ (hr.deeper _)) (fun fl s' hq => ?_) fun _ _ x => x.elim
    obtain ⟨L, m, mu, F', S', hP⟩ := hq
    exact ⟨_, F', rfl, p.out S', hP⟩
end
end Mine
end

section
/-! M2: iterators, list comprehensions, for loops. -/
set_option maxRecDepth 100000
namespace Mine
open PySem PySem.Calls PyProof.Rows

abbrev NE : Value → Shared → Prop := fun _ _ => False

/-- a list that is being built -/
def lst (vs : List Value) (o : Obj) : Prop := o.cls = .type "list" ∧ o.dict = none ∧ ∃ n, o.data = .seq vs.toArray n
/-- a list that stands still -/
def SList (F : Fz) (v : Value) (vs : List Value) : Prop := ∃ a o, v = .ref a ∧ F a = some o ∧ lst vs o
theorem SList.le {F G : Fz} {v : Value} {vs : List Value} (h : SList F v vs) (l : F.Le G) : SList G v vs := let ⟨a, o, e, ho, x⟩ := h; ⟨a, o, e, l _ _ ho, x⟩
theorem SList.isList {F : Fz} {a : Addr} {vs : List Value} {h : Heap} (x : SList F (.ref a) vs) (i : F.In h) : h.IsList a vs.toArray := by
  obtain ⟨a', o, e, ho, hc, _, n, hd⟩ := x
  cases e
  exact ⟨o, i _ _ ho, hc, n, hd⟩

structure Iter (prog : Program) (w : World) (A : Around) (F : Fz) (I : Addr) (n : Nat) (K : Nat → Obj → Prop) (item : Nat → Value → Prop) : Prop where
  next : ∀ i, i < n → ∀ (s : Shared) (Q : Option Value → Shared → Prop) (E : Value → Shared → Prop), F.In s.heap → (∃ o, s.heap.get? I = some o ∧ K i o) →
    (∀ v h' tk, item i v → (∀ b o, b ≠ I → s.heap.get? b = some o → h'.get? b = some o) → (∃ o, h'.get? I = some o ∧ K (i + 1) o) → Q (some v) { s with heap := h', toks := tk }) →
    wpAny (model prog w) A (pyNext (.ref I)) Q E s
  fin : ∀ (s : Shared) (Q : Option Value → Shared → Prop) (E : Value → Shared → Prop), F.In s.heap → (∃ o, s.heap.get? I = some o ∧ K n o) →
    (∀ h' tk, (∀ b o, b ≠ I → s.heap.get? b = some o → h'.get? b = some o) → Q none { s with heap := h', toks := tk }) →
    wpAny (model prog w) A (pyNext (.ref I)) Q E s
  self : ∀ (s : Shared) (Q : Value → Shared → Prop) (E : Value → Shared → Prop), F.In s.heap → (∃ o, s.heap.get? I = some o ∧ K 0 o) → Q (.ref I) s → wpAny (model prog w) A (pyIter (.ref I)) Q E s
  go : ∀ (i : Nat) (target : Expr) (v : Value) (s : Shared) (Q : Unit → Shared → Prop) (E : Value → Shared → Prop), (∃ o, s.heap.get? I = some o ∧ K i o) → Q () s → wpAny (model prog w) A (letOwnedTupleGo target (.ref I) v) Q E s

/-- what a for or a comprehension may walk over -/
def ItOf (prog : Program) (w : World) (A : Around) (F : Fz) (x : Value) (n : Nat) (item : Nat → Value → Prop) : Prop :=
  ∀ (s : Shared) (Q : Value → Shared → Prop) (E : Value → Shared → Prop), F.In s.heap →
    (∀ I K h' tk, s.heap.get? I = none → (∀ b o, s.heap.get? b = some o → h'.get? b = some o) → (∃ o, h'.get? I = some o ∧ K 0 o) → Iter prog w A F I n K item → Q (.ref I) { s with heap := h', toks := tk }) →
    wpAny (model prog w) A (pyIter x) Q E s

/-- the tuple that an iterator owns: none of ours owns one -/
theorem goPlain {M : Model} {A : Around} {E : Value → Shared → Prop} {s : Shared} {Q : Unit → Shared → Prop} {I : Addr} {o : Obj} {N : String} (target : Expr) (v : Value) (ho : s.heap.get? I = some o) (hc : o.cls = .type N)
    (hN : ["enumerate", "zip", "dict_itemiterator", "dict_reverseitemiterator", "odict_iterator", "itertools.zip_longest", "itertools.pairwise"].contains N = false) (h : Q () s) :
    wpAny M A (letOwnedTupleGo target (.ref I) v) Q E s := by
  have key : ∀ (elts : List Expr), wpAny M A (do
      let (.ref r, .ref a) := (Value.ref I, v) | return
      let o ← load r
      match o.cls, o.data with
      | .type n, .fields vs =>
        if ["enumerate", "zip", "dict_itemiterator", "dict_reverseitemiterator", "odict_iterator", "itertools.zip_longest", "itertools.pairwise"].contains n && vs[0]? == some (rawInt a) then
          rule "for.unpacks-the-owned-tuple"
          updateField r 0 .none
      | _, _ => pure ()) Q E s := fun _ => by
    cases v with
    | ref a =>
      refine wpAny_bind (wpAny_load ho ?_)
      rw [hc]
      cases hd : o.data with
      | fields vs =>
        dsimp only
        rw [hN, Bool.false_and, if_neg Bool.false_ne_true]
        exact wpAny_pure h
      | _ => exact wpAny_pure h
    | _ => exact wpAny_pure h
  unfold letOwnedTupleGo
  cases target with
  | Tuple elts x p => exact key elts
  | List elts x => exact key elts
  | _ => exact wpAny_pure h

section
variable {prog : Program} {w : World} {A : Around} {F : Fz}

theorem compTests {R : Result → Shared → Prop} {s : Shared} {elt target iter : Expr} {ifs : List Expr} {scope : Scope} {pos : Pos} {it acc : Value} {env : Env} (I : Nat → Shared → Prop)
    (turn : ∀ n s, I n s → wpAny (model prog w) A (pyNext it) (fun r s₁ => match r with
      | none => R (.ok .next) s₁
      | some v => wpAny (model prog w) A (letOwnedTupleGo target it v) (fun _ s₁' => wpAny (model prog w) A (assign target env v) (fun _ s₂ =>
          wpAny (model prog w) A (forIn ifs true fun c r => if r = true then do let ok ← isTrue c env (eval c env); pure (ForInStep.yield ok) else pure (ForInStep.yield r)) (fun ok s₃ =>
            if ok = true then wpAny (model prog w) A (eval elt env) (fun x s₄ =>
              wpAny (model prog w) A (call (.builtin "list.append") [acc, x]) (fun _ s₅ => ∃ m, m < n ∧ I m s₅) (notedBy (model prog w) A env fun e s' => R (.error e) s') s₄) (notedBy (model prog w) A env fun e s' => R (.error e) s') s₃
            else ∃ m, m < n ∧ I m s₃) (notedBy (model prog w) A env fun e s' => R (.error e) s') s₂) (notedBy (model prog w) A env fun e s' => R (.error e) s') s₁') (notedBy (model prog w) A env fun e s' => R (.error e) s') s₁) (notedBy (model prog w) A env fun e s' => R (.error e) s') s)
    (n : Nat) (h : I n s) :
    codeAny (model prog w) A (.compLoop (.ListComp elt [⟨target, iter, ifs, 0⟩] scope pos) 0 it acc env) R s := by
  refine codeAny_loop rfl I (fun n s hI => ?_) n h
  show wpAny _ A ((compTurn (.ListComp elt [⟨target, iter, ifs, 0⟩] scope pos) 0 it acc env).onRaise (fun x => do noteFrame x env; theTreesLotGoes x)) _ _ s
  refine wpAny_noted ?_
  rw [compTurn_list]
  refine wpAny_bind (wpAny_standAt (wpAny_bind (wpAny_mono (turn n s hI) (fun r s₁ h₁ => ?_) fun _ _ h' => h')))
  cases r with
  | none => exact wpAny_pure h₁
  | some v =>
    refine wpAny_bind (wpAny_mono h₁ (fun _ s₁' h₁ => ?_) fun _ _ h' => h')
    refine wpAny_bind (wpAny_mono h₁ (fun _ s₂ h₂ => wpAny_bind (wpAny_mono h₂ (fun ok s₃ h₃ => ?_) fun _ _ h' => h')) fun _ _ h' => h')
    cases ok with
    | false => exact wpAny_pure ⟨rfl, h₃⟩
    | true =>
      exact wpAny_bind (wpAny_bind (wpAny_mono h₃ (fun x s₄ h₄ => wpAny_bind (wpAny_mono h₄ (fun _ s₅ h₅ => wpAny_pure (wpAny_pure ⟨rfl, h₅⟩)) fun _ _ h' => h')) fun _ _ h' => h'))

theorem forTests {R : Result → Shared → Prop} {s : Shared} {target : Expr} {it : Value} {body orelse : List Stmt} {env : Env} (I : Nat → Shared → Prop)
    (turn : ∀ n s, I n s → wpAny (model prog w) A (pyNext it) (fun r s₁ => match r with
      | none => wpAny (model prog w) A (execs orelse env) (fun f s₃ => R (.ok f) s₃) (notedBy (model prog w) A env fun e s' => R (.error e) s') s₁
      | some v => wpAny (model prog w) A (letOwnedTupleGo target it v) (fun _ s₁' => wpAny (model prog w) A (assign target env v) (fun _ s₂ => wpAny (model prog w) A (execs body env) (fun f s₃ => match f with
          | .next | .cont => ∃ m, m < n ∧ I m s₃
          | .brk => R (.ok .next) s₃
          | .ret v => R (.ok (.ret v)) s₃) (notedBy (model prog w) A env fun e s' => R (.error e) s') s₂) (notedBy (model prog w) A env fun e s' => R (.error e) s') s₁') (notedBy (model prog w) A env fun e s' => R (.error e) s') s₁) (notedBy (model prog w) A env fun e s' => R (.error e) s') s)
    (n : Nat) (h : I n s) : codeAny (model prog w) A (.forLoop target it body orelse env) R s := by
  refine codeAny_loop' rfl I (fun n s hI => ?_) n h
  show wpAny _ _ ((forTurn target it body orelse env).onRaise (fun x => do noteFrame x env; theTreesLotGoes x)) _ _ s
  refine wpAny_noted ?_
  simp only [forTurn]
  refine wpAny_bind (wpAny_standAt (wpAny_bind (wpAny_onRaise (wpAny_mono (turn n s hI) (fun r s₁ h₁ => ?_) fun _ _ h' => wpAny_standAt h'))))
  cases r with
  | none => exact wpAny_pure (.inr ⟨rfl, codeAny_block h₁⟩)
  | some v =>
    refine wpAny_bind (wpAny_mono h₁ (fun _ s₁' h₁ => ?_) fun _ _ h' => h')
    refine wpAny_bind (wpAny_mono h₁ (fun _ s₂ h₂ => wpAny_bind (wpAny_mono h₂ (fun f s₃ h₃ => ?_) fun _ _ h' => h')) fun _ _ h' => h')
    cases f with
    | next => exact wpAny_pure (.inl ⟨rfl, h₃⟩)
    | cont => exact wpAny_pure (.inl ⟨rfl, h₃⟩)
    | brk => exact wpAny_pure h₃
    | ret v => exact wpAny_pure h₃

theorem get_none_size (h : Heap) : h.get? h.objs.size = none := by
  cases q : h.get? h.objs.size with
  | none => rfl
  | some o => exact absurd (Heap.lt_size q) (Nat.lt_irrefl _)

theorem itList (hh : A.handled = none) {x : Value} {vs : List Value} (hx : SList F x vs) : ItOf prog w A F x vs.length (fun i v => vs[i]? = some v) := by
  obtain ⟨l, ol, rfl, hl, hlo⟩ := id hx
  intro s Q E hF hQ
  refine wpAny_pyIter_list (hx.isList hF) ?_
  refine hQ s.heap.objs.size (fun i o => o.cls = .type "list_iterator" ∧ o.data = .fields #[.ref l, .int i 0]) _ s.toks (get_none_size _) (fun b o e => Heap.get?_push_of_some _ e) ⟨_, Heap.get?_push_size _ rfl, rfl, rfl⟩ ⟨?_, ?_, ?_, ?_⟩
  · rintro i hi s' Q E hF' ⟨o, ho, hc, hd⟩ hq
    obtain ⟨v, hv⟩ : ∃ v, vs[i]? = some v := ⟨vs[i], List.getElem?_eq_getElem hi⟩
    refine wpAny_pyNext_list_item ⟨o, ho, hc, hd⟩ (hx.isList hF') (by simpa using hv) fun h' hit hs => ?_
    obtain ⟨o', ho', hc', hd'⟩ := hit
    exact hq v h' s'.toks hv (fun b o hb e => (hs.2 b hb).trans e) ⟨o', ho', hc', hd'⟩
  · rintro s' Q E hF' ⟨o, ho, hc, hd⟩ hq
    exact wpAny_pyNext_list_end hh ⟨o, ho, hc, hd⟩ (hx.isList hF') (by simp) fun h' hs => hq h' s'.toks fun b o hb e => hs b o hb e
  · rintro s' Q E hF' ⟨o, ho, hc, hd⟩ hq
    exact wpAny_pyIter_listiter (l := l) (i := 0) ⟨o, ho, hc, hd⟩ hq
  · rintro i target v s' Q E ⟨o, ho, hc, hd⟩ hq
    exact goPlain target v ho hc (by decide) hq
end

/-- the cells that a comprehension takes along -/
def closL : List (PySem.Str × NameKind) → List (PySem.Str × Addr) → List (PySem.Str × Addr) → Option (List (PySem.Str × Addr))
  | [], _, acc => some acc
  | (n, k) :: r, cells, acc => if k == .free then (match cells.lookup n with | some a => closL r cells ((n, a) :: acc) | none => none) else closL r cells acc
theorem closure_go (env : Env) : ∀ (names : List (PySem.Str × NameKind)) (acc cl : List (PySem.Str × Addr)), closL names env.cells acc = some cl →
    (forIn names acc fun (x : PySem.Str × NameKind) (cs : List (PySem.Str × Addr)) => (if x.2 == NameKind.free then (do let a ← cellOf env x.1; pure (ForInStep.yield ((x.1, a) :: cs))) else pure (ForInStep.yield cs) : Sem (ForInStep _))) = (pure cl : Sem _)
  | [], acc, cl, h => by
    rw [List.forIn_nil]; cases h; rfl
  | (n, k) :: r, acc, cl, h => by
    rw [List.forIn_cons]
    unfold closL at h
    by_cases hk : (k == NameKind.free) = true
    · rw [if_pos hk] at h
      cases hc : env.cells.lookup n with
      | none => rw [hc] at h; cases h
      | some a =>
        rw [hc] at h
        have : cellOf env n = pure a := by unfold cellOf; rw [hc]
        simp only [hk, if_true, this, pure_bind]
        exact closure_go env r _ cl h
    · rw [if_neg hk] at h
      simp only [hk]
      exact closure_go env r _ cl h
theorem closure_eq {env : Env} {scope : Scope} {cl : List (PySem.Str × Addr)} (h : closL scope.names env.cells [] = some cl) : closureFor scope env = pure cl := by
  have e : closureFor scope env = ((forIn scope.names ([] : List (PySem.Str × Addr)) fun (x : PySem.Str × NameKind) (cs : List (PySem.Str × Addr)) => (if x.2 == NameKind.free then (do let a ← cellOf env x.1; pure (ForInStep.yield ((x.1, a) :: cs))) else pure (ForInStep.yield cs) : Sem (ForInStep _))) >>= fun cs => pure cs) := rfl
  rw [e, closure_go env _ _ cl h]
  rfl

/-- the scope that a comprehension's frame bears -/
def relab (scope sc : Scope) : Scope :=
  { scope with names := scope.names.map fun (n, k) => if (k == .free && sc.kind == .function && sc.names.lookup n == some .cell) then (n, .cell) else (n, k) }
theorem relabel_eq {scope sc : Scope} {env : Env} (he : EnvOk env sc) : relabel scope env = relab scope sc := by
  unfold relabel relab Env.kindOf; rw [he.scope]

theorem St0.cons {c : Cx} {F : Fz} {mu : Mu} {s : Shared} {a : Addr} {P : Obj → Prop} (S : St0 c F mu s) (hF : F a = none) (ho : c.old a = none) (hm : ∀ p ∈ mu, p.1 ≠ a) (h : ∃ o, s.heap.get? a = some o ∧ P o) :
    St0 c F ((a, P) :: mu) s :=
  ⟨S.base, S.inn, S.old, S.le0, S.new, fun p hp => by
    rcases List.mem_cons.mp hp with rfl | hp
    · exact h
    · exact S.at' p hp, fun p hp => by
    rcases List.mem_cons.mp hp with rfl | hp
    · exact ⟨hF, ho⟩
    · exact S.fr p hp, List.nodup_cons.mpr ⟨fun q => by obtain ⟨p, hp, e⟩ := List.mem_map.mp q; exact hm p hp e, S.nd⟩, S.os, S.gens⟩

section
variable {prog : Program} {w : World} {A : Around} {c : Cx} {F : Fz} {mu : Mu} {s : Shared}

theorem newListS {Q : Value → Shared → Prop} {E : Value → Shared → Prop} {vs : List Value} (S : St0 c F mu s) (hz : vs.length ≤ sizeLine) (h : ∀ a s', s.heap.get? a = none → s'.heap.objs.size = s.heap.objs.size + 1 → St0 c F ((a, lst vs) :: mu) s' → Q (.ref a) s') :
    wpAny (model prog w) A (newList vs) Q E s :=
  wpAny_newObj_type (h _ _ (get_none_size _) (Heap.size_push _ _) (S.push _ rfl ⟨rfl, rfl, _, rfl⟩)) (by show vs.toArray.size ≤ sizeLine; rw [List.size_toArray]; exact hz)

theorem appendS {Q : Value → Shared → Prop} {E : Value → Shared → Prop} {a : Addr} {vs : List Value} {x : Value} (S : St0 c F ((a, lst vs) :: mu) s) (hz : vs.length ≤ sizeLine)
    (h : ∀ s', St0 c F ((a, lst (vs ++ [x])) :: mu) s' → Q .none s') : wpAny (model prog w) A (call (.builtin "list.append") [.ref a, x]) Q E s := by
  obtain ⟨o, ho, hc, hdi, n, hd⟩ := S.hd
  obtain ⟨n', hd'⟩ := Obj.data_mapSeq hd (·.push x)
  refine wpAny_call_entry slot_list_append ⟨o, ho, hc⟩ entry_list_append ?_ (args_list_append _ _)
  show wpAny _ _ (updateSeq a (·.push x) >>= fun _ => ret .none) _ _ s
  refine wpAny_bind ?_
  refine wpAny_updateSeq ho hd (wpAny_pure ⟨.none, rfl, h _ (S.upd (fun b o hb e => (Heap.get?_update_other _ _ (Ne.symm hb)).trans e) ⟨_, Heap.get?_update_self _ ho (Obj.isFreed_of_seq hd'), (Obj.cls_mapSeq ..).trans hc, ?_, n', ?_⟩ rfl rfl)⟩) (by rw [List.size_toArray]; exact hz)
  · obtain ⟨c₀, d₀, dt₀, sl₀⟩ := o
    cases dt₀ <;> first | exact hdi | (cases hd)
  · rw [hd']; simp

/-- what is left of the names that an inner frame bears -/
def compNames (scope : Scope) : Bool := scope.names.all (fun x => x.2 != .cell) && (scope.kind == .function) && scope.names.all (fun x => x.2 != .local || scope.names.lookup x.1 == some .local)

/-- the heart of a list comprehension -/
theorem lcompCore {elt target iter : Expr} {ifs : List Expr} {scope sc : Scope} {pos p0 : Pos} {env : Env} {cl : List (PySem.Str × Addr)} {use : Option (Value → Sem Unit)} {Q : Value → Shared → Prop} {E : Value → Shared → Prop}
    (hh : A.handled = none) (he : EnvOk env sc) (hcl : closL scope.names env.cells [] = some cl) (hsc : compNames scope = true)
    (J : Nat → Fz → List Value → Prop) (hJ : ∀ i F₁ F₂ ys, F₁.Le F₂ → J i F₁ ys → J i F₂ ys)
    (hit : wpAny (model prog w) A (eval iter env) (fun x s₁ => ∃ c₁ F₁ mu₁ n item, St0 c₁ F₁ mu₁ s₁ ∧ ItOf prog w A F₁ x n item ∧ n ≤ 2 ^ 20 ∧ J 0 F₁ [] ∧
      (∀ cenv i v I K D m F' ys s', EnvOk cenv (relab scope sc) → cenv.cells = cl → i < n → item i v → F₁.Le F' → J i F' ys → ys.length ≤ i →
        St (cx c₁.base F₁ s₁) F' cenv.locals m [(I, K), (D, lst ys)] s' →
        wpAny (model prog w) A (assign target cenv v) (fun _ s₂ =>
          wpAny (model prog w) A (forIn ifs true fun c r => if r = true then do let ok ← isTrue c cenv (eval c cenv); pure (ForInStep.yield ok) else pure (ForInStep.yield r)) (fun ok s₃ =>
            if ok = true then wpAny (model prog w) A (eval elt cenv) (fun y s₄ => ∃ m' F'', F'.Le F'' ∧ St (cx c₁.base F₁ s₁) F'' cenv.locals m' [(I, K), (D, lst ys)] s₄ ∧ J (i + 1) F'' (ys ++ [y])) NE s₃
            else ∃ m' F'', F'.Le F'' ∧ St (cx c₁.base F₁ s₁) F'' cenv.locals m' [(I, K), (D, lst ys)] s₃ ∧ J (i + 1) F'' ys) NE s₂) NE s') ∧
      (∀ C D F' m ys s', F₁.Le F' → St0 c₁ F' ((C, nsIs m) :: mu₁) s' → SList F' (.ref D) ys → J n F' ys → ys.length ≤ n →
        match use with
        | none => ∀ s'', St0 c₁ F' mu₁ s'' → Q (.ref D) s''
        | some u => wpAny (model prog w) A (u (.ref D)) (fun _ s₂ => ∃ c₂ F₂ mu₂ m₂, St0 c₂ F₂ ((C, nsIs m₂) :: mu₂) s₂ ∧ ∀ s'', St0 c₂ F₂ mu₂ s'' → Q .none s'') E s')) E s)
    (hs : ∀ x, foldedSetIterable iter env x = pure x := by intro _; rfl) :
    wpAny (model prog w) A (comprehension (.ListComp elt [⟨target, iter, ifs, 0⟩] scope pos) scope env p0 (newList []) false (eval iter env) use) Q E s := by
  simp only [compNames, Bool.and_eq_true] at hsc
  obtain ⟨⟨hcell, hkind⟩, hnames⟩ := hsc
  have hkind' : scope.kind = .function := by simpa using hkind
  refine wpAny_comprehension_free (g := ⟨target, iter, ifs, 0⟩) (gs := []) rfl hs (closure_eq hcl) hkind' (fun x hx hl => ?_) (wpAny_mono hit (fun x s₁ hx => ?_) fun _ _ e => e)
  · have := List.all_eq_true.mp hnames x hx
    rw [hl] at this
    simpa using this
  obtain ⟨c₁, F₁, mu₁, n, item, S₁, hItOf, hn, hJ0, turn, fin⟩ := hx
  refine hItOf s₁ _ _ S₁.inn fun I K h₂ tk hI hk₂ hKI W => ?_
  -- the iterator
  have T₂ : St0 (cx c₁.base F₁ s₁) F₁ [(I, K 0)] { s₁ with heap := h₂, toks := tk } := S₁.pre.start.new_at hI hk₂ hKI rfl rfl
  refine newListS T₂ (Nat.zero_le _) fun D s₃ hD hsz₃ T₃ => ?_
  have hl : ∀ y ∈ ([] : List (PySem.Str × Value)), scope.names.lookup y.1 = some .local := fun _ hp => nomatch hp
  refine wpAny_newFunctionEnv (binds := []) (fun y hy => by simpa using List.all_eq_true.mp hcell y hy) hl (fun h₄ hns hsb => ?_) hkind'
  -- the frame
  have hC : s₃.heap.get? s₃.heap.objs.size = none := get_none_size _
  have T₄ : St (cx c₁.base F₁ s₁) F₁ s₃.heap.objs.size (fun x => ([] : List (PySem.Str × Value)).reverse.lookup x) [(I, K 0), (D, lst [])] { s₃ with heap := h₄, toks := s₃.toks + ([] : List (PySem.Str × Value)).length } := by
    obtain ⟨o', es, ep, ho', h1, h2, h3⟩ := hns
    exact T₃.swap.new_at hC (fun b o e => hsb.extBut b o (Nat.ne_of_lt (Heap.lt_size e)) (Heap.get?_push_of_some _ e)) ⟨o', ho', es, ep, h1, h2, h3⟩ rfl rfl
  have hCs₁ : s₁.heap.get? s₃.heap.objs.size = none := by
    cases q : s₁.heap.get? s₃.heap.objs.size with
    | none => rfl
    | some o => exact absurd (Heap.lt_size (T₃.old _ _ q)) (Nat.lt_irrefl _)
  generalize hcenv : ({ (newEnv scope s₃.heap.objs.size env.globals cl env.qual none .none (some env) env.builtins) with scope := relabel scope env } : Env) = cenv
  have hcE : EnvOk cenv (relab scope sc) := by subst hcenv; exact ⟨relabel_eq he, he.globals, he.builtins⟩
  have hcc : cenv.cells = cl := by subst hcenv; rfl
  have hcL : cenv.locals = s₃.heap.objs.size := by subst hcenv; rfl
  have loop : ∀ s', (∃ m F', F₁.Le F' ∧ St (cx c₁.base F₁ s₁) F' cenv.locals m [(I, K 0), (D, lst [])] s') →
      codeAny (model prog w) A (.compLoop (.ListComp elt [⟨target, iter, ifs, 0⟩] scope pos) 0 (.ref I) (.ref D) cenv) (compPost (model prog w) A E use Q (.ref D) s₃.heap.objs.size) s' := by
    rintro s' ⟨m, F', hle, T⟩
    refine compTests (fun k s' => ∃ i m F' ys, k = n - i ∧ i ≤ n ∧ ys.length ≤ i ∧ F₁.Le F' ∧ J i F' ys ∧ St (cx c₁.base F₁ s₁) F' cenv.locals m [(I, K i), (D, lst ys)] s') ?_ n
      ⟨0, m, F', [], rfl, Nat.zero_le _, Nat.le_refl _, hle, hJ _ _ _ _ hle hJ0, T⟩
    rintro k s' ⟨i, m, F', ys, rfl, hi, hys, hle, hJi, T⟩
    have TI := T.swap.hd
    by_cases hlt : i < n
    · refine W.next i hlt s' _ _ (hle.inn T.inn) TI fun v h' tk hv hk hK => ?_
      have T' : St (cx c₁.base F₁ s₁) F' cenv.locals m [(I, K (i + 1)), (D, lst ys)] { s' with heap := h', toks := tk } := (T.swap.upd (s' := { s' with heap := h', toks := tk }) hk hK rfl rfl).swap
      refine W.go (i + 1) target v _ _ _ T'.swap.hd ?_
      refine wpAny_mono (turn cenv i v I (K (i + 1)) D m F' ys _ hcE hcc hlt hv hle hJi hys T') (fun _ s₂ h₂ => wpAny_mono h₂ (fun ok s₃ h₃ => ?_) fun _ _ e => e.elim) fun _ _ e => e.elim
      cases ok with
      | false =>
        simp only [Bool.false_eq_true, if_false] at h₃ ⊢
        obtain ⟨m', F'', hle', T'', hJ''⟩ := h₃
        exact ⟨n - (i + 1), by omega, i + 1, m', F'', ys, rfl, hlt, by omega, hle.trans hle', hJ'', T''⟩
      | true =>
        simp only [if_true] at h₃ ⊢
        refine wpAny_mono h₃ (fun y s₄ h₄ => ?_) fun _ _ e => e.elim
        obtain ⟨m', F'', hle', T'', hJ''⟩ := h₄
        refine appendS T''.rot (by show ys.length ≤ 2 ^ 24; omega) fun s₅ T₅ => ?_
        exact ⟨n - (i + 1), by omega, i + 1, m', F'', ys ++ [y], rfl, hlt, by rw [List.length_append]; exact Nat.succ_le_succ hys, hle.trans hle', hJ'', T₅.rot.rot⟩
    · have hin : i = n := by omega
      subst hin
      refine W.fin s' _ _ (hle.inn T.inn) TI fun h' tk hk => ?_
      have T' : St (cx c₁.base F₁ s₁) F' cenv.locals m [(D, lst ys)] { s' with heap := h', toks := tk } := by
        have q := T.swap
        exact ⟨q.base, fun b o e => hk b o (fun z => by rw [z, (q.fr _ (List.mem_cons_self)).1] at e; cases e) (q.inn b o e), fun b o e => hk b o (fun z => by rw [z, (q.fr _ (List.mem_cons_self)).2] at e; cases e) (q.old b o e), q.le0, q.new,
          fun p hp => by obtain ⟨o, h1, h2⟩ := q.at' p (.tail _ hp); exact ⟨o, hk _ _ (q.ne p hp) h1, h2⟩, fun p hp => q.fr p (.tail _ hp), (List.nodup_cons.mp q.nd).2, q.os, q.gens⟩
      obtain ⟨o, hlo, hleD, hput, T''⟩ := T'.swap.freeze
      have O : Out s₁ F₁ { s' with heap := h', toks := tk } (F'.put D o) := S₁.pre.out T''
      have Z := S₁.after O
      obtain ⟨oC, hoC, hnsC⟩ := T''.hd
      have frC := T''.fr _ (List.mem_cons_self)
      have Z' : St0 c₁ (F'.put D o) ((s₃.heap.objs.size, nsIs m) :: mu₁) { s' with heap := h', toks := tk } := by
        have f3 := S₁.fresh_ne hCs₁
        exact Z.cons (by rw [← hcL]; exact frC.1) f3.2.1 f3.2.2 ⟨oC, by rw [← hcL]; exact hoC, hnsC⟩
      have fin' := fin s₃.heap.objs.size D (F'.put D o) m ys _ (hle.trans hleD) Z' ⟨D, o, rfl, hput, hlo⟩ (hJ _ _ _ _ hleD hJi) hys
      unfold compPost
      cases use with
      | none =>
        dsimp only at fin' ⊢
        refine ⟨m, St.ns Z', fun h'' hs'' => fin' _ ?_⟩
        refine Z'.tail.same (s' := { s' with heap := h', toks := tk }) rfl rfl rfl |> fun _ => ?_
        have f3 := Z'.ne
        exact ⟨Z'.base, fun b o e => (hs''.2 b (fun z => by rw [z, (Z'.fr _ (List.mem_cons_self)).1] at e; cases e)).trans (Z'.inn b o e), fun b o e => (hs''.2 b (fun z => by rw [z, (Z'.fr _ (List.mem_cons_self)).2] at e; cases e)).trans (Z'.old b o e), Z'.le0, Z'.new,
          fun p hp => by obtain ⟨o, h1, h2⟩ := Z'.at' p (.tail _ hp); exact ⟨o, (hs''.2 _ (f3 p hp)).trans h1, h2⟩, fun p hp => Z'.fr p (.tail _ hp), (List.nodup_cons.mp Z'.nd).2, Z'.os, Z'.gens⟩
      | some u =>
        dsimp only at fin' ⊢
        refine wpAny_mono fin' (fun _ s₂ h₂ => ?_) fun _ _ e => e
        obtain ⟨c₂, F₂, mu₂, m₂, Z₂, hQ⟩ := h₂
        refine ⟨m₂, St.ns Z₂, fun h'' hs'' => hQ _ ?_⟩
        have f3 := Z₂.ne
        exact ⟨Z₂.base, fun b o e => (hs''.2 b (fun z => by rw [z, (Z₂.fr _ (List.mem_cons_self)).1] at e; cases e)).trans (Z₂.inn b o e), fun b o e => (hs''.2 b (fun z => by rw [z, (Z₂.fr _ (List.mem_cons_self)).2] at e; cases e)).trans (Z₂.old b o e), Z₂.le0, Z₂.new,
          fun p hp => by obtain ⟨o, h1, h2⟩ := Z₂.at' p (.tail _ hp); exact ⟨o, (hs''.2 _ (f3 p hp)).trans h1, h2⟩, fun p hp => Z₂.fr p (.tail _ hp), (List.nodup_cons.mp Z₂.nd).2, Z₂.os, Z₂.gens⟩
  have hstart : ∃ m F', F₁.Le F' ∧ St (cx c₁.base F₁ s₁) F' cenv.locals m [(I, K 0), (D, lst [])] { s₃ with heap := h₄, toks := s₃.toks + ([] : List (PySem.Str × Value)).length } := ⟨_, F₁, .refl _, by rw [hcL]; exact T₄⟩
  have := codeAny_compStart_list (prog := prog) (w := w) (A := A) (elt := elt) (target := target) (iter := iter) (ifs := ifs) (rest := []) (scope := scope) (pos := pos) (env := cenv) (loop _ hstart)
    (W.self _ _ _ (T₄.inn) T₄.swap.hd (loop _ hstart))
  subst hcenv
  exact this
end
end Mine
end

section
/-! M3: comprehensions as expressions and as assignments, for loops, plain statements. -/
set_option maxRecDepth 100000
namespace Mine
open PySem PySem.Calls PyProof.Rows

section
variable {prog : Program} {w : World} {A : Around} {c : Cx} {F : Fz} {mu : Mu} {s : Shared} {env : Env} {sc : Scope}

theorem ne_mono {α : Type} {M : Model} {A : Around} {t : Sem α} {Q Q' : α → Shared → Prop} {E : Value → Shared → Prop} {s : Shared} (h : wpAny M A t Q NE s) (hQ : ∀ a s, Q a s → Q' a s) : wpAny M A t Q' E s :=
  wpAny_mono h hQ fun _ _ e => e.elim

/-- a list comprehension as an expression -/
theorem lcomp {elt target iter : Expr} {ifs : List Expr} {scope : Scope} {pos : Pos} {cl : List (PySem.Str × Addr)} {Q : Value → Shared → Prop} {E : Value → Shared → Prop}
    (hh : A.handled = none) (he : EnvOk env sc) (hcl : closL scope.names env.cells [] = some cl) (hsc : compNames scope = true)
    (J : Nat → Fz → List Value → Prop) (hJ : ∀ i F₁ F₂ ys, F₁.Le F₂ → J i F₁ ys → J i F₂ ys)
    (hit : wpAny (model prog w) A (eval iter env) (fun x s₁ => ∃ c₁ F₁ mu₁ n item, St0 c₁ F₁ mu₁ s₁ ∧ ItOf prog w A F₁ x n item ∧ n ≤ 2 ^ 20 ∧ J 0 F₁ [] ∧
      (∀ cenv i v I K D m F' ys s', EnvOk cenv (relab scope sc) → cenv.cells = cl → i < n → item i v → F₁.Le F' → J i F' ys → ys.length ≤ i →
        St (cx c₁.base F₁ s₁) F' cenv.locals m [(I, K), (D, lst ys)] s' →
        wpAny (model prog w) A (assign target cenv v) (fun _ s₂ =>
          wpAny (model prog w) A (forIn ifs true fun c r => if r = true then do let ok ← isTrue c cenv (eval c cenv); pure (ForInStep.yield ok) else pure (ForInStep.yield r)) (fun ok s₃ =>
            if ok = true then wpAny (model prog w) A (eval elt cenv) (fun y s₄ => ∃ m' F'', F'.Le F'' ∧ St (cx c₁.base F₁ s₁) F'' cenv.locals m' [(I, K), (D, lst ys)] s₄ ∧ J (i + 1) F'' (ys ++ [y])) NE s₃
            else ∃ m' F'', F'.Le F'' ∧ St (cx c₁.base F₁ s₁) F'' cenv.locals m' [(I, K), (D, lst ys)] s₃ ∧ J (i + 1) F'' ys) NE s₂) NE s') ∧
      (∀ D F' ys s', F₁.Le F' → St0 c₁ F' mu₁ s' → SList F' (.ref D) ys → J n F' ys → ys.length ≤ n → Q (.ref D) s')) E s)
    (hs : ∀ x, foldedSetIterable iter env x = pure x := by intro _; rfl) :
    wpAny (model prog w) A (eval (.ListComp elt [⟨target, iter, ifs, 0⟩] scope pos) env) Q E s := by
  rw [eval_ListComp]
  refine lcompCore (use := none) hh he hcl hsc J hJ (wpAny_mono hit (fun x s₁ h => ?_) fun _ _ e => e) hs
  obtain ⟨c₁, F₁, mu₁, n, item, h1, h2, h3, h4, h5, h6⟩ := h
  exact ⟨c₁, F₁, mu₁, n, item, h1, h2, h3, h4, h5, fun C D F' m ys s' a1 a2 a3 a4 a5 s'' a6 => h6 D F' ys s'' a1 a6 a3 a4 a5⟩

/-- does the assignment store before the comprehension's names go? -/
def swapB (sc : Scope) (t : PySem.Str) (pos vpos : Pos) (scope : Scope) : Bool :=
  (sc.kind == .function) && sc.names.lookup t == some .local && pos.line == vpos.line && !(scope.names.any fun (n, k) => n == t && (k == .local || k == .cell))
theorem swaps_eq {elt : Expr} {gens : List Comprehension} {scope : Scope} {vpos pos : Pos} {t : PySem.Str} {line : Nat} (he : EnvOk env sc) (hk : sc.kind = .function) :
    swapsWith (.ListComp elt gens scope vpos) (some (.Name t pos)) line env = pure (swapB sc t pos vpos scope) := by
  unfold swapsWith swapB
  have e1 : env.blockKind = .function := by unfold Env.blockKind; rw [he.scope, hk]; rfl
  have e2 : env.kindOf t = sc.names.lookup t := by unfold Env.kindOf; rw [he.scope]
  simp only [e1, e2, hk]
  rfl

theorem asgPlain {x : PySem.Str} {pos' pos : Pos} {elt : Expr} {gens : List Comprehension} {scope : Scope} {vpos : Pos} {Q : Flow → Shared → Prop} {E : Value → Shared → Prop} (he : EnvOk env sc) (hk : sc.kind = .function)
    (hsw : swapB sc x pos' vpos scope = false)
    (h : wpAny (model prog w) A (eval (.ListComp elt gens scope vpos) env) (fun v s₁ => wpAny (model prog w) A (storeName env x v) (fun _ => Q .next) E s₁) E s) :
    wpAny (model prog w) A (exec (.Assign [.Name x pos'] (.ListComp elt gens scope vpos) pos) env) Q E s :=
  wpAny_Assign_Name h (by rw [swaps_eq he hk, hsw])

/-- x = [ .. for .. ], x a local name -/
theorem lcompA {elt target iter : Expr} {ifs : List Expr} {scope : Scope} {vpos pos pos' : Pos} {x : PySem.Str} {cl : List (PySem.Str × Addr)} {Q : Flow → Shared → Prop} {E : Value → Shared → Prop}
    (hh : A.handled = none) (he : EnvOk env sc) (hk : sc.kind = .function) (hsw : swapB sc x pos' vpos scope = true) (hcl : closL scope.names env.cells [] = some cl) (hsc : compNames scope = true)
    (J : Nat → Fz → List Value → Prop) (hJ : ∀ i F₁ F₂ ys, F₁.Le F₂ → J i F₁ ys → J i F₂ ys)
    (hit : wpAny (model prog w) A (eval iter env) (fun x₀ s₁ => ∃ c₁ F₁ m₁ mu₁ n item, St c₁ F₁ env.locals m₁ mu₁ s₁ ∧ ItOf prog w A F₁ x₀ n item ∧ n ≤ 2 ^ 20 ∧ J 0 F₁ [] ∧
      (∀ cenv i v I K D m F' ys s', EnvOk cenv (relab scope sc) → cenv.cells = cl → i < n → item i v → F₁.Le F' → J i F' ys → ys.length ≤ i →
        St (cx c₁.base F₁ s₁) F' cenv.locals m [(I, K), (D, lst ys)] s' →
        wpAny (model prog w) A (assign target cenv v) (fun _ s₂ =>
          wpAny (model prog w) A (forIn ifs true fun c r => if r = true then do let ok ← isTrue c cenv (eval c cenv); pure (ForInStep.yield ok) else pure (ForInStep.yield r)) (fun ok s₃ =>
            if ok = true then wpAny (model prog w) A (eval elt cenv) (fun y s₄ => ∃ m' F'', F'.Le F'' ∧ St (cx c₁.base F₁ s₁) F'' cenv.locals m' [(I, K), (D, lst ys)] s₄ ∧ J (i + 1) F'' (ys ++ [y])) NE s₃
            else ∃ m' F'', F'.Le F'' ∧ St (cx c₁.base F₁ s₁) F'' cenv.locals m' [(I, K), (D, lst ys)] s₃ ∧ J (i + 1) F'' ys) NE s₂) NE s') ∧
      (∀ D F' ys s', F₁.Le F' → St c₁ F' env.locals (upd m₁ x (.ref D)) mu₁ s' → SList F' (.ref D) ys → J n F' ys → ys.length ≤ n → Q .next s')) E s)
    (hs : ∀ x, foldedSetIterable iter env x = pure x := by intro _; rfl) (hl : sc.names.lookup x = some .local := by rfl) :
    wpAny (model prog w) A (exec (.Assign [.Name x pos'] (.ListComp elt [⟨target, iter, ifs, 0⟩] scope vpos) pos) env) Q E s := by
  rw [exec_Assign_Name_used _ _ _ _ (by rw [swaps_eq he hk, hsw])]
  refine wpAny_bind (wpAny_standAt (wpAny_bind ?_))
  rw [arm_evalThenUse_ListComp]
  show wpAny (model prog w) A (comprehension (.ListComp elt [⟨target, iter, ifs, 0⟩] scope vpos) scope env (firstIterPos [⟨target, iter, ifs, 0⟩] vpos) (newList []) false (eval iter env) (some (assign (.Name x pos') env)) >>= fun _ => pure ()) _ E s
  refine wpAny_bind (lcompCore (use := some (assign (.Name x pos') env)) hh he hcl hsc J hJ (wpAny_mono hit (fun x₀ s₁ h => ?_) fun _ _ e => e) hs)
  obtain ⟨c₁, F₁, m₁, mu₁, n, item, h1, h2, h3, h4, h5, h6⟩ := h
  refine ⟨c₁, F₁, _, n, item, h1, h2, h3, h4, h5, fun C D F' m ys s' a1 a2 a3 a4 a5 => ?_⟩
  refine wpAny_assign_Name (st' (St0.swap a2) he (fun s₂ T => ?_) hk hl)
  exact ⟨c₁, F', _, m, T.swap, fun s'' a6 => wpAny_pure (wpAny_pure (h6 D F' ys s'' a1 a6 a3 a4 a5))⟩

/-- for target in iter: body -/
theorem forS {target iter : Expr} {body : List Stmt} {pos : Pos} {Q : Flow → Shared → Prop} {E : Value → Shared → Prop}
    (Inv : Nat → Fz → (PySem.Str → Option Value) → Mu → Prop)
    (hit : wpAny (model prog w) A (eval iter env) (fun x s₁ => ∃ c₁ F₁ m₁ mu₁ n item, St c₁ F₁ env.locals m₁ mu₁ s₁ ∧ ItOf prog w A F₁ x n item ∧ Inv 0 F₁ m₁ mu₁ ∧
      (∀ i v I K m F' mu' s', i < n → item i v → F₁.Le F' → Inv i F' m mu' → St c₁ F' env.locals m ((I, K) :: mu') s' →
        wpAny (model prog w) A (assign target env v) (fun _ s₂ => wpAny (model prog w) A (execs body env) (fun f s₃ => match f with
          | .next | .cont => ∃ m' F'' mu'', F'.Le F'' ∧ St c₁ F'' env.locals m' ((I, K) :: mu'') s₃ ∧ Inv (i + 1) F'' m' mu''
          | .brk => Q .next s₃
          | .ret v => Q (.ret v) s₃) NE s₂) NE s') ∧
      (∀ F' m mu' s', F₁.Le F' → Inv n F' m mu' → St c₁ F' env.locals m mu' s' → Q .next s')) E s)
    (hs : ∀ x, foldedSetIterable iter env x = pure x := by intro _; rfl) :
    wpAny (model prog w) A (exec (.For target iter body [] pos) env) Q E s := by
  refine wpAny_For (wpAny_mono hit (fun x s₁ hx => ?_) fun _ _ e => e) hs
  obtain ⟨c₁, F₁, m₁, mu₁, n, item, S₁, hItOf, hI0, turn, fin⟩ := hx
  refine hItOf s₁ _ _ S₁.inn fun I K h₂ tk hI hk₂ hKI W => ?_
  have T₂ : St c₁ F₁ env.locals m₁ ((I, K 0) :: mu₁) { s₁ with heap := h₂, toks := tk } := (S₁.new_at (s' := { s₁ with heap := h₂, toks := tk }) hI hk₂ hKI rfl rfl).swap
  refine forTests (fun k s' => ∃ i m F' mu', k = n - i ∧ i ≤ n ∧ F₁.Le F' ∧ Inv i F' m mu' ∧ St c₁ F' env.locals m ((I, K i) :: mu') s') ?_ n ⟨0, m₁, F₁, mu₁, rfl, Nat.zero_le _, .refl _, hI0, T₂⟩
  rintro k s' ⟨i, m, F', mu', rfl, hi, hle, hInv, T⟩
  have TI := T.swap.hd
  by_cases hlt : i < n
  · refine W.next i hlt s' _ _ (hle.inn T.inn) TI fun v h' tk hv hk hK => ?_
    have T' : St c₁ F' env.locals m ((I, K (i + 1)) :: mu') { s' with heap := h', toks := tk } := (T.swap.upd (s' := { s' with heap := h', toks := tk }) hk hK rfl rfl).swap
    refine W.go (i + 1) target v _ _ _ T'.swap.hd ?_
    refine wpAny_mono (turn i v I (K (i + 1)) m F' mu' _ hlt hv hle hInv T') (fun _ s₂ h₂ => wpAny_mono h₂ (fun f s₃ h₃ => ?_) fun _ _ e => e.elim) fun _ _ e => e.elim
    cases f with
    | next => obtain ⟨m', F'', mu'', a1, a2, a3⟩ := h₃; exact ⟨n - (i + 1), by omega, i + 1, m', F'', mu'', rfl, hlt, hle.trans a1, a3, a2⟩
    | cont => obtain ⟨m', F'', mu'', a1, a2, a3⟩ := h₃; exact ⟨n - (i + 1), by omega, i + 1, m', F'', mu'', rfl, hlt, hle.trans a1, a3, a2⟩
    | brk => exact h₃
    | ret v => exact h₃
  · have hin : i = n := by omega
    subst hin
    refine W.fin s' _ _ (hle.inn T.inn) TI fun h' tk hk => wpAny_execs_nil ?_
    refine fin F' m mu' _ hle hInv ?_
    have q := T.swap
    exact ⟨q.base, fun b o e => hk b o (fun z => by rw [z, (q.fr _ (List.mem_cons_self)).1] at e; cases e) (q.inn b o e), fun b o e => hk b o (fun z => by rw [z, (q.fr _ (List.mem_cons_self)).2] at e; cases e) (q.old b o e), q.le0, q.new,
      fun p hp => by obtain ⟨o, h1, h2⟩ := q.at' p (.tail _ hp); exact ⟨o, hk _ _ (q.ne p hp) h1, h2⟩, fun p hp => q.fr p (.tail _ hp), (List.nodup_cons.mp q.nd).2, q.os, q.gens⟩

theorem execsNext {st : Stmt} {rest : List Stmt} {Q : Flow → Shared → Prop} {E : Value → Shared → Prop} {M : Model}
    (h : wpAny M A (exec st env) (fun f s' => f = .next ∧ wpAny M A (execs rest env) Q E s') E s) : wpAny M A (execs (st :: rest) env) Q E s :=
  wpAny_execs_cons (wpAny_mono h (fun f s' hf => by obtain ⟨rfl, h'⟩ := hf; exact h') fun _ _ e => e)

/-- try: body except ..: a body that does not raise -/
theorem tryQuiet {body : Sem Flow} {hs : List ExceptHandler} {orelse : Sem Flow} {Q : Flow → Shared → Prop} {E : Value → Shared → Prop} {M : Model}
    (h : wpAny M A body (fun f s' => match f with | .next => wpAny M A orelse Q E s' | f => Q f s') NE s) : wpAny M A (tryStmt false body hs orelse [] env) Q E s := by
  unfold tryStmt
  show wpAny M A (if true = true then _ else _) Q E s
  rw [if_pos rfl]
  refine wpAny_bind (wpAny_attempt (wpAny_mono h (fun f s' hf => ?_) fun _ _ e => e.elim))
  cases f with
  | next => exact hf
  | brk => exact wpAny_pure hf
  | cont => exact wpAny_pure hf
  | ret v => exact wpAny_pure hf
end
end Mine
end

section
/-! M4: texts as lists of numbers below 256: what the words on str and on bytes say of them. No state. -/
set_option maxRecDepth 100000
namespace Mine
open PySem PySem.Calls PyProof.Rows

abbrev T := List Nat
def Byt (l : T) : Prop := ∀ c ∈ l, c < 256
def ub (l : T) : Array UInt8 := (l.map UInt8.ofNat).toArray
def us (l : T) : PySem.Str := ⟨l.toArray⟩
def tx (oct : Bool) (l : T) (t : Tok) : Value := if oct then .bytes (ub l) t else .str (us l) t

theorem ofNat_inj {a b : Nat} (ha : a < 256) (hb : b < 256) (h : UInt8.ofNat a = UInt8.ofNat b) : a = b := by
  have := congrArg UInt8.toNat h
  simpa [UInt8.toNat_ofNat', Nat.mod_eq_of_lt ha, Nat.mod_eq_of_lt hb] using this
theorem map_inj {a b : T} (ha : Byt a) (hb : Byt b) (h : a.map UInt8.ofNat = b.map UInt8.ofNat) : a = b := by
  induction a generalizing b with
  | nil => cases b with
    | nil => rfl
    | cons y r => cases h
  | cons x q ih => cases b with
    | nil => cases h
    | cons y r =>
      simp only [List.map_cons, List.cons.injEq] at h
      rw [ofNat_inj (ha x (List.mem_cons_self)) (hb y (List.mem_cons_self)) h.1, ih (fun c hc => ha c (.tail _ hc)) (fun c hc => hb c (.tail _ hc)) h.2]
theorem ub_inj {a b : T} (ha : Byt a) (hb : Byt b) : (ub a = ub b) ↔ a = b := ⟨fun h => map_inj ha hb (by simpa [ub] using h), fun h => by rw [h]⟩
theorem us_inj {a b : T} : (us a = us b) ↔ a = b := ⟨fun h => by simpa [us] using h, fun h => by rw [h]⟩
theorem ub_size (l : T) : (ub l).size = l.length := by simp [ub]
theorem us_length (l : T) : (us l).length = l.length := by simp [us, PySem.Str.length]
theorem ub_append (a b : T) : ub a ++ ub b = ub (a ++ b) := by simp [ub]
theorem us_append (a b : T) : us a ++ us b = us (a ++ b) := by
  apply PySem.Str.ext'
  rw [PySem.Str.cps_append]; simp [us]
theorem Byt.append {a b : T} (ha : Byt a) (hb : Byt b) : Byt (a ++ b) := fun c hc => (List.mem_append.mp hc).elim (ha c) (hb c)
theorem Byt.nil : Byt [] := fun _ h => nomatch h
theorem Byt.sub {a b : T} (ha : Byt a) (h : ∀ c ∈ b, c ∈ a) : Byt b := fun c hc => ha c (h c hc)

/-! the pure words -/
def splitL : T → List T
  | [] => [[]]
  | c :: r => if c = 47 then [] :: splitL r else (match splitL r with | p :: ps => (c :: p) :: ps | [] => [[c]])
def joinL : List T → T
  | [] => []
  | [p] => p
  | p :: q :: r => p ++ 47 :: joinL (q :: r)
def startsL (l : T) : Bool := l.head? == some 47
def endsL (l : T) : Bool := l.getLast? == some 47
/-- the text up to its last slash, that one with it -/
def upTo (l : T) : T := (l.reverse.dropWhile (· != 47)).reverse
def rstripL (l : T) : T := (l.reverse.dropWhile (· == 47)).reverse

theorem splitL_ne (l : T) : ∃ p ps, splitL l = p :: ps := by
  cases l with
  | nil => exact ⟨_, _, rfl⟩
  | cons c r =>
    unfold splitL
    split
    · exact ⟨_, _, rfl⟩
    · split <;> exact ⟨_, _, rfl⟩
theorem splitL_join (l : T) : joinL (splitL l) = l := by
  induction l with
  | nil => rfl
  | cons c r ih =>
    obtain ⟨p, ps, e⟩ := splitL_ne r
    unfold splitL
    rw [e] at ih ⊢
    split
    · rename_i h; subst h; show [] ++ 47 :: joinL (p :: ps) = _; rw [ih]; rfl
    · cases ps with
      | nil => simp only [joinL] at ih ⊢; rw [ih]
      | cons q qs => simp only [joinL] at ih ⊢; rw [List.cons_append, ih]
theorem splitL_free (l : T) : ∀ p ∈ splitL l, 47 ∉ p := by
  induction l with
  | nil => intro p hp; simp [splitL] at hp; subst hp; exact fun h => nomatch h
  | cons c r ih =>
    obtain ⟨q, qs, e⟩ := splitL_ne r
    intro p hp
    unfold splitL at hp
    rw [e] at hp ih
    split at hp
    · rcases List.mem_cons.mp hp with rfl | hp
      · exact fun h => nomatch h
      · exact ih p hp
    · rename_i hc
      rcases List.mem_cons.mp hp with rfl | hp
      · intro h
        rcases List.mem_cons.mp h with h | h
        · exact hc h.symm
        · exact ih q (List.mem_cons_self) h
      · exact ih p (.tail _ hp)
theorem split_cat (p : T) (hp : 47 ∉ p) (r : T) : splitL (p ++ 47 :: r) = p :: splitL r := by
  induction p with
  | nil => simp [splitL]
  | cons c q ih =>
    have hc : c ≠ 47 := fun h => hp (by rw [h]; exact List.mem_cons_self)
    rw [List.cons_append, splitL, if_neg hc, ih fun h => hp (.tail _ h)]
theorem split_one (p : T) (hp : 47 ∉ p) : splitL p = [p] := by
  induction p with
  | nil => rfl
  | cons c q ih =>
    have hc : c ≠ 47 := fun h => hp (by rw [h]; exact List.mem_cons_self)
    rw [splitL, if_neg hc, ih fun h => hp (.tail _ h)]
theorem split_of_join : ∀ (ps : List T), ps ≠ [] → (∀ p ∈ ps, 47 ∉ p) → splitL (joinL ps) = ps
  | [], h, _ => absurd rfl h
  | [p], _, h => split_one p (h p (List.mem_cons_self))
  | p :: q :: r, _, h => by
    show splitL (p ++ 47 :: joinL (q :: r)) = _
    rw [split_cat p (h p (List.mem_cons_self)), split_of_join (q :: r) (fun e => nomatch e) fun x hx => h x (.tail _ hx)]
theorem splitL_mem {l p : T} (hp : p ∈ splitL l) : ∀ c ∈ p, c ∈ l := by
  induction l generalizing p with
  | nil => simp [splitL] at hp; subst hp; exact fun c h => nomatch h
  | cons x r ih =>
    obtain ⟨q, qs, e⟩ := splitL_ne r
    unfold splitL at hp
    rw [e] at hp ih
    intro c hc
    split at hp
    · rcases List.mem_cons.mp hp with rfl | hp
      · cases hc
      · exact .tail _ (ih hp c hc)
    · rcases List.mem_cons.mp hp with rfl | hp
      · rcases List.mem_cons.mp hc with rfl | hc
        · exact List.mem_cons_self
        · exact .tail _ (ih (List.mem_cons_self) c hc)
      · exact .tail _ (ih (.tail _ hp) c hc)
theorem splitL_length (l : T) : (splitL l).length ≤ l.length + 1 := by
  induction l with
  | nil => exact Nat.le_refl _
  | cons x r ih =>
    obtain ⟨q, qs, e⟩ := splitL_ne r
    unfold splitL
    rw [e] at ih ⊢
    split <;> simp only [List.length_cons] at ih ⊢ <;> omega

/-! the bytes' split -/
theorem occ_one (b : Array UInt8) : Builtin.Bytes.occurrences b #[47] 0 b.size = (List.range b.size).filter fun i => b[i]? == some 47 := by
  unfold Builtin.Bytes.occurrences
  simp only [List.size_toArray, List.length_cons, List.length_nil, Nat.zero_add, Nat.add_sub_cancel, Nat.add_zero, List.map_id_fun', id_eq]
  have key : ∀ (n : Nat) (m : Nat), m + n = b.size → ∀ acc : List Nat × Nat, acc.2 ≤ m →
      ((List.range' m n).foldl (fun (acc : List Nat × Nat) i => if (decide (i ≥ acc.2) && b.extract i (i + 1) == #[47]) = true then (i :: acc.1, i + 1) else acc) acc).1.reverse = acc.1.reverse ++ (List.range' m n).filter fun i => b[i]? == some 47 := by
    intro n
    induction n with
    | zero => intro m _ acc _; simp
    | succ n ih =>
      intro m hm acc hacc
      have hlt : m < b.size := by omega
      have e : (b.extract m (m + 1) == #[47]) = (b[m]? == some 47) := by
        have : b.extract m (m + 1) = #[b[m]] := by
          apply Array.ext
          · simp; omega
          · intro i h1 h2
            simp only [List.size_toArray, List.length_cons, List.length_nil] at h2
            have : i = 0 := by omega
            subst this
            simp
        rw [this, Array.getElem?_eq_getElem hlt]
        by_cases hb : b[m] = 47 <;> simp [hb]
      rw [List.range'_succ, List.foldl_cons, List.filter_cons]
      have ge : decide (m ≥ acc.2) = true := decide_eq_true hacc
      rw [ge, e, Bool.true_and]
      by_cases hb : (b[m]? == some 47) = true
      · rw [if_pos hb, if_pos hb, ih (m + 1) (by omega) _ (Nat.le_refl _)]
        simp
      · rw [if_neg hb, if_neg hb, ih (m + 1) (by omega) _ (by omega)]
  have := key b.size 0 (by omega) ([], 0) (Nat.le_refl _)
  simpa [List.range_eq_range'] using this

def glueL (x : List UInt8) : List (List UInt8) → List (List UInt8)
  | p :: ps => (x ++ p) :: ps
  | [] => [x]
theorem between_go (b : Array UInt8) : ∀ (l : T) (n m last : Nat) (parts : Array (Array UInt8)), Byt l → n = l.length → m + n = b.size → b.toList.drop m = l.map UInt8.ofNat → last ≤ m →
    (let r := ((List.range' m n).filter fun i => b[i]? == some 47).foldl (fun (x : Array (Array UInt8) × Nat) p => (x.1.push (b.extract x.2 p), p + 1)) (parts, last)
     (r.1.push (b.extract r.2 b.size)).toList.map Array.toList) = parts.toList.map Array.toList ++ glueL (b.extract last m).toList ((splitL l).map (·.map UInt8.ofNat)) := by
  intro l
  induction l with
  | nil =>
    intro n m last parts _ hn hm hd hl
    subst hn
    simp only [List.length_nil, Nat.add_zero] at hm
    subst hm
    simp [splitL, glueL]
  | cons c r ih =>
    intro n m last parts hby hn hm hd hl
    subst hn
    have hlt : m < b.size := by simp only [List.length_cons] at hm; omega
    have hbm : b[m]? = some (UInt8.ofNat c) := by
      have : (b.toList.drop m)[0]? = some (UInt8.ofNat c) := by rw [hd]; rfl
      simpa using this
    have hd' : b.toList.drop (m + 1) = r.map UInt8.ofNat := by
      have := congrArg List.tail hd
      simpa using this
    have hby' : Byt r := fun x hx => hby x (.tail _ hx)
    have hc : c < 256 := hby c (List.mem_cons_self)
    have hm' : (m + 1) + r.length = b.size := by simp only [List.length_cons] at hm; omega
    obtain ⟨q, qs, e⟩ := splitL_ne r
    simp only [List.length_cons, List.range'_succ, List.filter_cons, hbm]
    by_cases h47 : c = 47
    · subst h47
      have e1 : (some (UInt8.ofNat 47) == some (47 : UInt8)) = true := by decide
      simp only [e1, if_true, List.foldl_cons]
      have := ih r.length (m + 1) (m + 1) (parts.push (b.extract last m)) hby' rfl hm' hd' (Nat.le_refl _)
      simp only at this
      rw [this]
      rw [splitL, if_pos rfl, e]
      simp [glueL]
    · have e1 : (some (UInt8.ofNat c) == some (47 : UInt8)) = false := by
        cases h : (some (UInt8.ofNat c) == some (47 : UInt8)) with
        | false => rfl
        | true =>
          have : UInt8.ofNat c = UInt8.ofNat 47 := by simpa using h
          exact absurd (ofNat_inj hc (by decide) this) h47
      simp only [e1, Bool.false_eq_true, if_false]
      have := ih r.length (m + 1) last parts hby' rfl hm' hd' (by omega)
      simp only at this
      rw [this, splitL, if_neg h47, e]
      have ex : (b.extract last (m + 1)).toList = (b.extract last m).toList ++ [UInt8.ofNat c] := by
        have h1 : b.extract last (m + 1) = b.extract last m ++ b.extract m (m + 1) := by
          rw [Array.extract_append_extract]; congr 1 <;> omega
        have h2 : b.extract m (m + 1) = #[UInt8.ofNat c] := by
          have hb2 : b[m] = UInt8.ofNat c := by rw [Array.getElem?_eq_getElem hlt] at hbm; exact Option.some.inj hbm
          apply Array.ext
          · simp; omega
          · intro i h1 h2
            simp only [List.size_toArray, List.length_cons, List.length_nil] at h2
            have : i = 0 := by omega
            subst this
            simp [hb2]
        rw [h1, h2]; simp
      rw [ex]
      simp [glueL]
theorem between_split {l : T} (h : Byt l) : (Builtin.Bytes.between (ub l) 1 (Builtin.Bytes.occurrences (ub l) #[47] 0 (ub l).size)) = (splitL l).map ub := by
  have := between_go (ub l) l l.length 0 0 #[] h rfl (by rw [ub_size]; omega) (by simp [ub]) (Nat.le_refl _)
  rw [occ_one]
  unfold Builtin.Bytes.between
  obtain ⟨q, qs, e⟩ := splitL_ne l
  simp only [ub_size] at this ⊢
  rw [List.range_eq_range']
  simp only [e, List.map_cons, glueL] at this ⊢
  have inj : ∀ (a b : List (Array UInt8)), a.map Array.toList = b.map Array.toList → a = b := by
    intro a
    induction a with
    | nil => intro b h; cases b with
      | nil => rfl
      | cons y r => cases h
    | cons x q ih => intro b h; cases b with
      | nil => cases h
      | cons y r =>
        simp only [List.map_cons, List.cons.injEq] at h
        rw [Array.toList_inj.mp h.1, ih r h.2]
  apply inj
  rw [this]
  simp [ub]
end Mine
end

section
/-! M5: the words on texts, walked. -/
set_option maxRecDepth 100000
namespace Mine
open PySem PySem.Calls PyProof.Rows PySem.W

abbrev E0 : Heap := {}
theorem E0_none (a : Addr) : E0.get? a = none := rfl

theorem adapt {c : Cx} {F : Fz} {L : Addr} {m : PySem.Str → Option Value} {mu : Mu} {s : Shared} (S : St c F L m mu s) :
    ∃ news, Fr E0 L s.heap m ∧ News E0 L s.heap news ∧ ∀ h' m' k, Fr E0 L h' m' → News E0 L h' news → (∀ b o, b ≠ L → s.heap.get? b = some o → h'.get? b = some o) ∧ St c F L m' mu { s with heap := h', toks := k } := by
  refine ⟨(List.range s.heap.objs.size).filterMap fun a => if a = L then none else (s.heap.get? a).map fun o => (a, o), ⟨St.ns S, (fun b o e => by rw [E0_none] at e; cases e), Nat.zero_le _⟩, ?_, ?_⟩
  · intro p hp
    obtain ⟨a, _, ha⟩ := List.mem_filterMap.mp hp
    by_cases h : a = L
    · rw [if_pos h] at ha; cases ha
    · rw [if_neg h] at ha
      cases hg : s.heap.get? a with
      | none => rw [hg] at ha; cases ha
      | some o => rw [hg] at ha; cases ha; exact ⟨hg, h, E0_none _⟩
  · intro h' m' k F' N'
    have K : ∀ b o, b ≠ L → s.heap.get? b = some o → h'.get? b = some o := fun b o hb e =>
      (N' (b, o) (List.mem_filterMap.mpr ⟨b, List.mem_range.mpr (Heap.lt_size e), by rw [if_neg hb, e]; rfl⟩)).1
    refine ⟨K, ?_⟩
    obtain ⟨o, es, ep, ho, h1, h2, h3⟩ := F'.ns
    exact St0.upd (s' := { s with heap := h', toks := k }) S K ⟨o, ho, es, ep, h1, h2, h3⟩ rfl rfl

abbrev TxL (oct : Bool) : List T → List Value → Prop := Paired fun (p : T) (v : Value) => ∃ t, v = tx oct p t

theorem slot_bytes_split : Slot "bytes" "split" "bytes.split" :=
  .of (owner := "bytes") (n := "split") (by rw [typeLookup_type, builtinLookup_eq_fast]; kernel_rfl) (by decide +kernel) (by decide +kernel) (by decide +kernel)
    (by first | exact .inl (by decide +kernel) | exact .inr (by decide +kernel)) (by rw [isSubtype_type]; kernel_rfl)
theorem type_bytes_split : typeOf (.builtin "bytes.split") = pure (.type "method_descriptor") := by show builtinType _ = _; rw [builtinType_eq_fast]; kernel_rfl
theorem entry_bytes_split : entryFor table "bytes.split" = some Builtin.«bytes.split» := entryFor_of_tree (by kernel_rfl)
theorem args_bytes_split (a b : Value) : argsOk "bytes.split" ⟨[a, b], []⟩ := by unfold argsOk; kernel_rfl

section
variable {prog : Program} {w : World} {A : Around} {E : Value → Shared → Prop} {c : Cx} {F : Fz} {L : Addr} {m : PySem.Str → Option Value} {mu : Mu} {s : Shared} {Q : Value → Shared → Prop}

theorem like_eq {b : Array UInt8} {t : Tok} {id : String} : Builtin.Bytes.bytesLike id (.bytes b t) = pure b := by
  unfold Builtin.Bytes.bytesLike
  rw [KBy.buffer_eq]
  rfl
theorem mapM_new {M : Model} : ∀ (ps : List T) (s : Shared) (Q : List Value → Shared → Prop), (∀ p ∈ ps, p.length ≤ 16777216) → (∀ vs k, TxL true ps vs → Q vs { s with toks := k }) →
    wpAny M A ((ps.map ub).mapM fun x => Builtin.Bytes.Kind.new .bytes x) Q E s
  | [], s, Q, _, h => by
    rw [List.map_nil, List.mapM_nil]; exact wpAny_pure (h [] s.toks .nil)
  | p :: r, s, Q, hp, h => by
    rw [List.map_cons, List.mapM_cons]
    refine wpAny_bind ?_
    show wpAny M A (mkBytes (ub p)) _ _ s
    refine wpAny_mkBytes ?_ (by rw [ub_size]; exact hp p (List.mem_cons_self))
    refine wpAny_bind (mapM_new r _ _ (fun x hx => hp x (.tail _ hx)) fun vs k hv => wpAny_pure ?_)
    exact h _ k (.cons ⟨_, rfl⟩ hv)

theorem split_bytes {l : T} {t u : Tok} (S : St0 c F mu s) (hb : Byt l) (hz : l.length ≤ 100000)
    (h : ∀ D s' vs, St0 c F ((D, lst vs) :: mu) s' → TxL true (splitL l) vs → Q (.ref D) s') :
    wpAny (model prog w) A (call (.builtin "bytes.split") [.bytes (ub l) t, .bytes (ub [47]) u]) Q E s := by
  refine wpAny_call_entry slot_bytes_split (typeIs_bytes _ _ _) entry_bytes_split ?_ (args_bytes_split _ _)
  show wpAny _ _ (Builtin.Bytes.bindOptional "bytes.split" "split" ["sep", "maxsplit"] [.bytes (ub [47]) u] [] >>= fun r => _) _ _ s
  refine wpAny_bind (wpAny_of_eq (a := [some (.bytes (ub [47]) u), none]) rfl ?_)
  dsimp only
  refine wpAny_bind (wpAny_of_eq (a := (-1 : Int)) rfl ?_)
  refine wpAny_bind (wpAny_of_eq (a := ub l) rfl ?_)
  refine wpAny_bind (wpAny_of_eq like_eq ?_)
  have hne : (ub [47]).isEmpty = false := rfl
  have hsz : (ub [47]).size = 1 := rfl
  have hpl : (if false = true then Builtin.Bytes.occurrencesFromRight (ub l) (ub [47]) (if (-1 : Int) < 0 then (ub l).size + 1 else (-1 : Int).toNat)
      else List.take (if (-1 : Int) < 0 then (ub l).size + 1 else (-1 : Int).toNat) (Builtin.Bytes.occurrences (ub l) (ub [47]) 0 (ub l).size)) = Builtin.Bytes.occurrences (ub l) #[47] 0 (ub l).size := by
    rw [if_neg Bool.false_ne_true, if_pos (by decide)]
    refine List.take_of_length_le ?_
    show (Builtin.Bytes.occurrences (ub l) #[47] 0 (ub l).size).length ≤ _
    rw [occ_one]
    refine Nat.le_trans (List.length_filter_le _ _) ?_
    rw [List.length_range]; exact Nat.le_succ _
  rw [hpl, hne, hsz]
  simp only [Bool.false_eq_true, if_false]
  have hbs := between_split hb
  have hfree : ∀ x ∈ splitL l, x.length ≤ 16777216 := fun x hx => by
    have h1 : x.length ≤ l.length := by
      have := splitL_join l
      have key : ∀ (ps : List T) (p : T), p ∈ ps → p.length ≤ (joinL ps).length := by
        intro ps
        induction ps with
        | nil => intro p hp; cases hp
        | cons q r ih =>
          intro p hp
          cases r with
          | nil => rcases List.mem_cons.mp hp with rfl | hp
                   · exact Nat.le_refl _
                   · cases hp
          | cons q' r' =>
            simp only [joinL, List.length_append, List.length_cons]
            rcases List.mem_cons.mp hp with rfl | hp
            · omega
            · have := ih p hp; omega
      have := key (splitL l) x hx
      rwa [splitL_join] at this
    omega
  by_cases he : (Builtin.Bytes.occurrences (ub l) #[47] 0 (ub l).size).isEmpty = true
  · rw [if_pos he]
    have hone : splitL l = [l] := by
      have e0 : Builtin.Bytes.occurrences (ub l) #[47] 0 (ub l).size = [] := List.isEmpty_iff.mp he
      rw [e0] at hbs
      have e1 : Builtin.Bytes.between (ub l) 1 [] = [ub l] := by simp [Builtin.Bytes.between]
      rw [e1] at hbs
      cases hq : splitL l with
      | nil => rw [hq] at hbs; cases hbs
      | cons q r =>
        rw [hq] at hbs
        cases r with
        | cons q' r' => simp at hbs
        | nil =>
          have := splitL_join l
          rw [hq] at this
          simp only [joinL] at this
          rw [this]
    refine wpAny_bind (wpAny_rule (wpAny_bind (wpAny_of_eq (a := .bytes (ub l) t) rfl (wpAny_bind (newListS S (by show (1 : Nat) ≤ 2 ^ 24; decide) fun D s' _ _ S' => wpAny_pure ⟨_, rfl, ?_⟩)))))
    refine h D s' _ S' ?_
    rw [hone]
    exact .cons ⟨t, rfl⟩ .nil
  · rw [if_neg he, hbs]
    refine wpAny_bind (mapM_new _ _ _ hfree fun vs k hv => ?_)
    have S' : St0 c F mu { s with toks := k } := S.tok k
    refine wpAny_bind (newListS S' ?_ fun D s' _ _ S'' => wpAny_pure ⟨_, rfl, h D s' vs S'' hv⟩)
    have := hv.length
    have := splitL_length l
    show vs.length ≤ 2 ^ 24
    omega
end
end Mine
end

section
/-! M6: the pure sides of the words on texts. -/
set_option maxRecDepth 100000
namespace Mine
open PySem PySem.Calls PyProof.Rows PySem.W PySem.Builtin PySem.Builtin.Str

theorem us_toList (l : T) : (us l).cps.toList = l := by simp [us]
theorem us_of (x : PySem.Str) : us x.cps.toList = x := by simp [us]

/-! split, on str -/
theorem join_us : ∀ ps : List T, PySem.Str.join (us [47]) (ps.map us) = us (joinL ps)
  | [] => rfl
  | [p] => rfl
  | p :: q :: r => by
    have ih := join_us (q :: r)
    show us p ++ us [47] ++ PySem.Str.join (us [47]) ((q :: r).map us) = _
    rw [ih, us_append, us_append, joinL]
    simp
theorem split_nonempty (x y : PySem.Str) : Txt.split x y ≠ [] := by
  unfold Txt.split
  split
  · exact fun h => nomatch h
  · split
    · exact fun h => nomatch h
    · rw [StrLaws.partsBetween_eq]
      obtain ⟨p, r, e⟩ := StrLaws.partsFrom_ne x y.length 0 (occurrences x y 0 x.length (x.length + 1))
      rw [e]; exact fun h => nomatch h
theorem split_us (l : T) : Txt.split (us l) (us [47]) = (splitL l).map us := by
  have h1 := StrLaws.join_split (us l) (us [47])
  have h2 := StrLaws.split_free (us l) 47
  have h0 := split_nonempty (us l) (us [47])
  have e : (⟨#[47]⟩ : PySem.Str) = us [47] := rfl
  rw [e] at h2
  generalize Txt.split (us l) (us [47]) = ps at h0 h1 h2
  have hps : ps = (ps.map fun p => p.cps.toList).map us := by
    rw [List.map_map]
    conv => lhs; rw [← List.map_id ps]
    exact List.map_congr_left fun p _ => (us_of p).symm
  rw [hps, join_us] at h1
  have h3 : joinL (ps.map fun p => p.cps.toList) = l := us_inj.mp h1
  rw [hps, ← h3, split_of_join _ (by simpa using h0) fun p hp => ?_]
  obtain ⟨x, hx, rfl⟩ := List.mem_map.mp hp
  exact h2 x hx

/-! startswith, endswith -/
theorem sub47 (l : T) (i : Nat) : subAt (us l) (us [47]) i = (l[i]? == some 47) := by
  rw [StrLaws.subAt_eq, us_toList]
  show ((l.drop i).take 1 == [47]) = _
  cases h : l[i]? with
  | none =>
    have : l.drop i = [] := List.drop_eq_nil_of_le (by simpa using h)
    rw [this]; rfl
  | some a =>
    have : (l.drop i).take 1 = [a] := by
      cases hd : l.drop i with
      | nil => have h2 := congrArg (·[0]?) hd; simp [h] at h2
      | cons b r => have h2 := congrArg (·[0]?) hd; simp [h] at h2; simp [h2]
    rw [this]
    by_cases h47 : a = 47 <;> simp [h47]
theorem starts_us (l : T) : Txt.startswith (us l) (us [47]) = startsL l := by
  unfold Txt.startswith startsL
  rw [sub47, us_length, us_length]
  cases l with
  | nil => rfl
  | cons a r => simp
theorem ends_us (l : T) : Txt.endswith (us l) (us [47]) = endsL l := by
  unfold Txt.endswith endsL
  rw [sub47, us_length, us_length, List.getLast?_eq_getElem?]
  cases l with
  | nil => rfl
  | cons a r => simp
theorem ub_get (l : T) (i : Nat) : (ub l)[i]? = (l[i]?).map UInt8.ofNat := by simp [ub]
theorem beqA {α : Type} [BEq α] [LawfulBEq α] (a b : Array α) : (a == b) = (a.toList == b.toList) := by
  rw [Bool.eq_iff_iff]; simp [Array.toList_inj]
theorem map_beq {a b : T} (ha : Byt a) (hb : Byt b) : (a.map UInt8.ofNat == b.map UInt8.ofNat) = (a == b) := by
  rw [Bool.eq_iff_iff]; simp only [beq_iff_eq]; exact ⟨map_inj ha hb, fun h => by rw [h]⟩
theorem byt47 : Byt [47] := fun c hc => by simp at hc; subst hc; decide
theorem take1_47 (l : T) (i : Nat) : ((l.drop i).take 1 == [47]) = (l[i]? == some 47) := by
  have := sub47 l i
  rw [StrLaws.subAt_eq, us_toList] at this
  exact this
theorem ub47 {l : T} (h : Byt l) (i : Nat) : ((ub l).extract i (i + 1) == ub [47]) = (l[i]? == some 47) := by
  rw [beqA, ← take1_47]
  have e : ((ub l).extract i (i + 1)).toList = ((l.drop i).take 1).map UInt8.ofNat := by
    simp [ub, List.map_take, List.map_drop]
  have e2 : (ub [47]).toList = [47].map UInt8.ofNat := by simp [ub]
  rw [e, e2, map_beq (h.sub fun c hc => List.mem_of_mem_drop (List.mem_of_mem_take hc)) byt47]

/-! up to the last slash -/
theorem upTo_take {l : T} {k : Nat} (hk : k ≤ l.length) (h1 : k = 0 ∨ l[k - 1]? = some 47) (h2 : ∀ j, k ≤ j → l[j]? ≠ some 47) : upTo l = l.take k := by
  unfold upTo
  have e : l.reverse = (l.drop k).reverse ++ (l.take k).reverse := by
    rw [← List.reverse_append, List.take_append_drop]
  have hd : ∀ c ∈ (l.drop k).reverse, (c != 47) = true := fun c hc => by
    obtain ⟨j, hj⟩ := List.getElem?_of_mem (List.mem_reverse.mp hc)
    rw [List.getElem?_drop] at hj
    have := h2 (k + j) (by omega)
    rw [hj] at this
    simpa using this
  rw [e, List.dropWhile_append_of_pos hd]
  have ht : (l.take k).reverse.dropWhile (· != 47) = (l.take k).reverse := by
    rcases h1 with h | h
    · subst h; simp
    · cases hr : (l.take k).reverse with
      | nil => rfl
      | cons a r =>
        have hk0 : k ≠ 0 := by intro h0; subst h0; simp at hr
        have : (l.take k).reverse[0]? = some 47 := by
          have hl : (l.take k).length = k := by rw [List.length_take]; omega
          rw [List.getElem?_reverse (by omega), hl, List.getElem?_take]
          rw [if_pos (by omega), show k - 1 - 0 = k - 1 from rfl]; exact h
        rw [hr] at this
        have ha : a = 47 := by simpa using this
        subst ha
        simp
  rw [ht, List.reverse_reverse]
theorem upTo_length {l : T} {k : Nat} (hk : k ≤ l.length) (h1 : k = 0 ∨ l[k - 1]? = some 47) (h2 : ∀ j, k ≤ j → l[j]? ≠ some 47) : (upTo l).length = k := by
  rw [upTo_take hk h1 h2, List.length_take]; omega
theorem upTo_prefix (l : T) : l.take (upTo l).length = upTo l := by
  unfold upTo
  generalize hp : l.reverse.dropWhile (· != 47) = q
  have hs : q <:+ l.reverse := by rw [← hp]; exact List.dropWhile_suffix _
  obtain ⟨pre, hpre⟩ := hs
  have : l = q.reverse ++ pre.reverse := by rw [← List.reverse_append, hpre, List.reverse_reverse]
  rw [this, List.take_left' rfl]
theorem upTo_le (l : T) : (upTo l).length ≤ l.length := by
  have := congrArg List.length (upTo_prefix l)
  rw [List.length_take] at this; omega
theorem at_us {l : T} {i : Nat} : StrLaws.At (us l) (us [47]) (us l).length i ↔ l[i]? = some 47 := by
  unfold StrLaws.At
  rw [sub47, us_length, us_length]
  constructor
  · intro h; simpa using h.2
  · intro h
    have := List.getElem?_eq_some_iff.mp h
    obtain ⟨h1, _⟩ := this
    exact ⟨by simp; omega, by rw [h]; rfl⟩
theorem rfind_us (l : T) : Txt.rfind (us l) (us [47]) = ((upTo l).length : Int) - 1 := by
  unfold Txt.rfind
  rcases StrLaws.last_spec (us l) (us [47]) with ⟨e, h⟩ | ⟨i, e, h1, h2⟩
  · rw [e]
    rw [upTo_length (k := 0) (Nat.zero_le _) (.inl rfl) fun j _ hj => h j (at_us.mpr hj)]
    rfl
  · rw [e]
    have hi := at_us.mp h1
    have hlt := (List.getElem?_eq_some_iff.mp hi).1
    rw [upTo_length (k := i + 1) hlt (.inr hi) fun j hj hq => h2 j hj (at_us.mpr hq)]
    show (i : Int) = ((i + 1 : Nat) : Int) - 1
    omega
theorem rfind_ub {l : T} (h : Byt l) : (match Bytes.rfind? (ub l) (ub [47]) 0 (ub l).size with | some i => (i : Int) | none => -1) = ((upTo l).length : Int) - 1 := by
  unfold Bytes.rfind?
  have e1 : (ub [47]).size = 1 := rfl
  simp only [e1, Nat.zero_add, Nat.add_sub_cancel, Nat.add_zero, List.map_id_fun', id_eq, ub47 h, ub_size]
  cases hf : (List.range l.length).reverse.find? fun i => l[i]? == some 47 with
  | none =>
    have h' := List.find?_eq_none.mp hf
    rw [upTo_length (k := 0) (Nat.zero_le _) (.inl rfl) fun j _ hj => ?_]
    · rfl
    · have := (List.getElem?_eq_some_iff.mp hj).1
      have := h' j (by simp [this])
      simp [hj] at this
  | some i =>
    obtain ⟨h1, as, bs, h2, h3⟩ := List.find?_eq_some_iff_append.mp hf
    have hi : l[i]? = some 47 := by simpa using h1
    have hlt := (List.getElem?_eq_some_iff.mp hi).1
    rw [upTo_length (k := i + 1) hlt (.inr hi) fun j hj hq => ?_]
    · show (i : Int) = ((i + 1 : Nat) : Int) - 1
      omega
    · have hjl := (List.getElem?_eq_some_iff.mp hq).1
      have hmem : j ∈ as := by
        have e : List.range l.length = bs.reverse ++ i :: as.reverse := by
          have := congrArg List.reverse h2
          simpa using this
        have hj' : (List.range l.length)[j]? = some j := by simp [hjl]
        have hi' : (List.range l.length)[bs.length]? = some i := by rw [e]; simp
        have hbi : bs.length = i := by
          have : bs.length < l.length := by
            have := congrArg List.length e
            simp at this; omega
          simp [this] at hi'; exact hi'
        rw [e, List.getElem?_append_right (by simp; omega)] at hj'
        have : j - bs.reverse.length = (j - bs.length - 1) + 1 := by simp; omega
        rw [this, List.getElem?_cons_succ] at hj'
        exact List.mem_reverse.mp (List.mem_of_getElem? hj')
      have := h3 j hmem
      simp [hq] at this

/-! rstrip -/
theorem rstripL_take (l : T) : rstripL l = l.take (l.length - (l.reverse.takeWhile (· == 47)).length) := by
  unfold rstripL
  have e := List.takeWhile_append_dropWhile (p := (· == 47)) (l := l.reverse)
  generalize l.reverse.takeWhile (· == 47) = a at e ⊢
  generalize l.reverse.dropWhile (· == 47) = b at e ⊢
  have : l = b.reverse ++ a.reverse := by rw [← List.reverse_append, e, List.reverse_reverse]
  rw [this, List.length_append, List.length_reverse, List.length_reverse, Nat.add_sub_cancel, List.take_left' (by simp)]
theorem contains47 (c : Nat) : (us [47]).cps.contains c = (c == 47) := by
  rw [Bool.eq_iff_iff]; simp [us]
theorem rstrip_us (l : T) : Txt.rstripChars (us l) (us [47]) = us (rstripL l) := by
  unfold Txt.rstripChars
  rw [PyProof.Rows.stripBy_eq]
  have e0 : stripLo (us [47]).cps.contains false (us l) = 0 := rfl
  rw [e0]
  apply PySem.Str.ext'
  apply Array.toList_inj.mp
  rw [StrLaws.strSub_toList, us_toList, us_toList, rstripL_take]
  unfold stripHi
  rw [if_pos rfl, us_length, us_toList, List.drop_zero, Nat.sub_zero]
  have : (us [47]).cps.contains = fun c => c == 47 := funext contains47
  rw [this]
theorem ofNat47 {c : Nat} (h : c < 256) : (ub [47]).contains (UInt8.ofNat c) = (c == 47) := by
  rw [Bool.eq_iff_iff]
  simp [ub]
  constructor
  · intro e; exact ofNat_inj h (by decide) (by rw [e]; rfl)
  · intro e; subst e; rfl
theorem dropW_map {l : T} (h : Byt l) : (l.map UInt8.ofNat).dropWhile (ub [47]).contains = (l.dropWhile (· == 47)).map UInt8.ofNat := by
  induction l with
  | nil => rfl
  | cons c r ih =>
    rw [List.map_cons, List.dropWhile_cons, List.dropWhile_cons, ofNat47 (h c (List.mem_cons_self)), ih fun x hx => h x (.tail _ hx)]
    split <;> rfl
theorem rstrip_ub {l : T} (h : Byt l) : ((ub l).toList.reverse.dropWhile (ub [47]).contains).reverse = (rstripL l).map UInt8.ofNat := by
  have e : (ub l).toList.reverse = l.reverse.map UInt8.ofNat := by simp [ub]
  rw [e, dropW_map (h.sub fun c hc => List.mem_reverse.mp hc)]
  unfold rstripL
  rw [List.map_reverse]
theorem rstripL_le (l : T) : (rstripL l).length ≤ l.length := by rw [rstripL_take, List.length_take]; omega
theorem rstripL_eq {l : T} (h : (rstripL l).length = l.length) : rstripL l = l := by
  rw [rstripL_take, List.length_take] at h
  rw [rstripL_take, List.take_of_length_le (by omega)]

/-! join, on bytes -/
theorem joined_go (sep : Array UInt8) : ∀ (ps : List (Array UInt8)) (k : Nat) (acc : Array UInt8), 0 < k →
    (ps.zipIdx k).foldl (fun out (x : Array UInt8 × Nat) => (if x.2 > 0 then out ++ sep else out) ++ x.1) acc = ps.foldl (fun out p => out ++ sep ++ p) acc := by
  intro ps
  induction ps with
  | nil => intro k acc _; rfl
  | cons p r ih =>
    intro k acc hk
    rw [List.zipIdx_cons, List.foldl_cons, List.foldl_cons, ih (k + 1) _ (Nat.succ_pos _)]
    rw [if_pos hk]
theorem glue_ub : ∀ (r : List T) (acc : T), (r.map ub).foldl (fun out p => out ++ ub [47] ++ p) (ub acc) = ub (r.foldl (fun out p => out ++ [47] ++ p) acc)
  | [], _ => rfl
  | p :: r, acc => by
    rw [List.map_cons, List.foldl_cons, ub_append, ub_append, glue_ub r, List.foldl_cons]
theorem joinL_fold : ∀ (r : List T) (p : T), joinL (p :: r) = r.foldl (fun out q => out ++ [47] ++ q) p
  | [], _ => rfl
  | q :: r, p => by
    rw [joinL, joinL_fold r q, List.foldl_cons]
    have key : ∀ (r : List T) (a b : T), a ++ r.foldl (fun out q => out ++ [47] ++ q) b = r.foldl (fun out q => out ++ [47] ++ q) (a ++ b) := by
      intro r
      induction r with
      | nil => intro a b; rfl
      | cons x r ih => intro a b; rw [List.foldl_cons, List.foldl_cons, ih]; simp
    have : p ++ 47 :: List.foldl (fun out q => out ++ [47] ++ q) q r = (p ++ [47]) ++ List.foldl (fun out q => out ++ [47] ++ q) q r := by simp
    rw [this, key]
theorem joined_ub (ps : List T) : Bytes.joined (ub [47]) (ps.map ub) = ub (joinL ps) := by
  unfold Bytes.joined
  cases ps with
  | nil => rfl
  | cons p r =>
    rw [List.map_cons, List.zipIdx_cons, List.foldl_cons]
    have e : (if (0 : Nat) > 0 then #[] ++ ub [47] else (#[] : Array UInt8)) ++ ub p = ub p := by simp
    have j := joined_go (ub [47]) (r.map ub) (0 + 1) ((if (0 : Nat) > 0 then #[] ++ ub [47] else (#[] : Array UInt8)) ++ ub p) (by decide)
    refine Eq.trans j ?_
    rw [e, glue_ub, joinL_fold]
theorem Byt.join : ∀ {ps : List T}, (∀ p ∈ ps, Byt p) → Byt (joinL ps)
  | [], _ => Byt.nil
  | [p], h => h p (List.mem_cons_self)
  | p :: q :: r, h => by
    have ih := Byt.join (ps := q :: r) fun x hx => h x (.tail _ hx)
    have : joinL (p :: q :: r) = p ++ ([47] ++ joinL (q :: r)) := by simp [joinL]
    rw [this]
    exact (h p (List.mem_cons_self)).append (byt47.append ih)
theorem joinL_len : ∀ (ps : List T) (B : Nat), (∀ p ∈ ps, p.length ≤ B) → (joinL ps).length ≤ ps.length * (B + 1)
  | [], _, _ => Nat.zero_le _
  | [p], B, h => by have := h p (List.mem_cons_self); simp only [joinL, List.length_cons, List.length_nil]; omega
  | p :: q :: r, B, h => by
    have ih := joinL_len (q :: r) B fun x hx => h x (.tail _ hx)
    have h1 := h p (List.mem_cons_self)
    have : joinL (p :: q :: r) = p ++ 47 :: joinL (q :: r) := rfl
    rw [this, List.length_append, List.length_cons]
    have e : (p :: q :: r).length * (B + 1) = (q :: r).length * (B + 1) + (B + 1) := by rw [List.length_cons, Nat.add_mul, Nat.one_mul]
    rw [e]; omega
end Mine
end

section
/-! M7a: facts of bytes' methods. -/
set_option maxRecDepth 100000
namespace Mine
open PySem PySem.Calls PyProof.Rows PySem.W PySem.Builtin

theorem slot_bytes_rfind : Slot "bytes" "rfind" "bytes.rfind" :=
  .of (owner := "bytes") (n := "rfind") (by rw [typeLookup_type, builtinLookup_eq_fast]; kernel_rfl) (by decide +kernel) (by decide +kernel) (by decide +kernel)
    (by first | exact .inl (by decide +kernel) | exact .inr (by decide +kernel)) (by rw [isSubtype_type]; kernel_rfl)
theorem type_bytes_rfind : typeOf (.builtin "bytes.rfind") = pure (.type "method_descriptor") := by show builtinType _ = _; rw [builtinType_eq_fast]; kernel_rfl
theorem entry_bytes_rfind : entryFor table "bytes.rfind" = some Builtin.«bytes.rfind» := entryFor_of_tree (by kernel_rfl)
theorem args_bytes_rfind (a b : Value) : argsOk "bytes.rfind" ⟨[a, b], []⟩ := by unfold argsOk; kernel_rfl
theorem slot_bytes_rstrip : Slot "bytes" "rstrip" "bytes.rstrip" :=
  .of (owner := "bytes") (n := "rstrip") (by rw [typeLookup_type, builtinLookup_eq_fast]; kernel_rfl) (by decide +kernel) (by decide +kernel) (by decide +kernel)
    (by first | exact .inl (by decide +kernel) | exact .inr (by decide +kernel)) (by rw [isSubtype_type]; kernel_rfl)
theorem type_bytes_rstrip : typeOf (.builtin "bytes.rstrip") = pure (.type "method_descriptor") := by show builtinType _ = _; rw [builtinType_eq_fast]; kernel_rfl
theorem entry_bytes_rstrip : entryFor table "bytes.rstrip" = some Builtin.«bytes.rstrip» := entryFor_of_tree (by kernel_rfl)
theorem args_bytes_rstrip (a b : Value) : argsOk "bytes.rstrip" ⟨[a, b], []⟩ := by unfold argsOk; kernel_rfl
theorem slot_bytes_join : Slot "bytes" "join" "bytes.join" :=
  .of (owner := "bytes") (n := "join") (by rw [typeLookup_type, builtinLookup_eq_fast]; kernel_rfl) (by decide +kernel) (by decide +kernel) (by decide +kernel)
    (by first | exact .inl (by decide +kernel) | exact .inr (by decide +kernel)) (by rw [isSubtype_type]; kernel_rfl)
theorem type_bytes_join : typeOf (.builtin "bytes.join") = pure (.type "method_descriptor") := by show builtinType _ = _; rw [builtinType_eq_fast]; kernel_rfl
theorem entry_bytes_join : entryFor table "bytes.join" = some Builtin.«bytes.join» := entryFor_of_tree (by kernel_rfl)
theorem args_bytes_join (a b : Value) : argsOk "bytes.join" ⟨[a, b], []⟩ := by unfold argsOk; kernel_rfl
theorem slot_bytes_lt : Slot "bytes" (cmpInfo .Lt).2.1 "bytes.__lt__" :=
  .of (owner := "bytes") (n := "__lt__") (by rw [typeLookup_type, builtinLookup_eq_fast]; kernel_rfl) (by decide +kernel) (by decide +kernel) (by decide +kernel)
    (by first | exact .inl (by decide +kernel) | exact .inr (by decide +kernel)) (by rw [isSubtype_type]; kernel_rfl)
theorem entry_bytes_lt : entryFor table "bytes.__lt__" = some Builtin.«bytes.__lt__» := entryFor_of_tree (by kernel_rfl)
theorem args_bytes_lt (a b : Value) : argsOk "bytes.__lt__" ⟨[a, b], []⟩ := by unfold argsOk; kernel_rfl

end Mine
end

section
/-! M7: the words on texts, as steps. -/
set_option maxRecDepth 100000
namespace Mine
open PySem PySem.Calls PyProof.Rows PySem.W PySem.Builtin

def mid (oct : Bool) (b s : String) : String := if oct then b else s

section
variable {prog : Program} {w : World} {A : Around} {E : Value → Shared → Prop} {c : Cx} {F : Fz} {L : Addr} {m : PySem.Str → Option Value} {mu : Mu} {s : Shared} {Q : Value → Shared → Prop}

theorem startsT {oct : Bool} {l : T} {t u : Tok} (hb : Byt l) (h : Q (.bool (startsL l)) s) :
    wpAny (model prog w) A (call (.builtin (mid oct "bytes.startswith" "str.startswith")) [tx oct l t, tx oct [47] u]) Q E s := by
  cases oct with
  | false => exact SC.startswith (by rw [starts_us]; exact h)
  | true =>
    refine wpAny_call_entry FB.slot_bytes_startswith (typeIs_bytes _ _ _) FB.entry_bytes_startswith ?_ (FB.args_bytes_startswith_2 _ _)
    show wpAny _ _ (Bytes.tailMatchM .bytes "startswith" false ⟨[.bytes (ub l) t, .bytes (ub [47]) u], []⟩) _ _ s
    unfold Bytes.tailMatchM
    refine wpAny_bind (wpAny_of_eq (a := (.bytes (ub l) t, [.bytes (ub [47]) u])) rfl ?_)
    refine wpAny_bind (wpAny_of_eq (a := none) rfl ?_)
    refine wpAny_bind (wpAny_of_eq (a := none) rfl ?_)
    refine wpAny_bind (wpAny_of_eq (a := ub l) rfl ?_)
    refine wpAny_bind (wpAny_isInstance (v := .bytes (ub [47]) u) (typeIs_bytes _ _ _) (show isSubtype (.type "bytes") (.type "tuple") = pure false by rw [isSubtype_type]; kernel_rfl) ?_)
    simp only [Bool.false_eq_true, if_false]
    refine wpAny_bind (wpAny_of_eq KBy.buffer_eq ?_)
    refine wpAny_pure ⟨_, rfl, ?_⟩
    have e : (if (min ((ub l).size : Int) (if ((ub l).size : Int) < 0 then max 0 ((ub l).size + (ub l).size) else ((ub l).size : Int))) - 0 < ((ub [47]).size : Int) then false else (ub l).extract (0 : Int).toNat ((0 : Int).toNat + (ub [47]).size) == ub [47]) = startsL l := by
      have e1 : (ub [47]).size = 1 := rfl
      rw [e1, ub_size]
      have e0 : (0 : Int).toNat = 0 := rfl
      rw [e0, ub47 hb]
      unfold startsL
      cases l with
      | nil => rfl
      | cons a r =>
        rw [if_neg (by simp only [List.length_cons]; omega)]
        simp
    have := h
    rw [← e] at this
    exact this
theorem endsT {oct : Bool} {l : T} {t u : Tok} (hb : Byt l) (h : Q (.bool (endsL l)) s) :
    wpAny (model prog w) A (call (.builtin (mid oct "bytes.endswith" "str.endswith")) [tx oct l t, tx oct [47] u]) Q E s := by
  cases oct with
  | false => exact SC.endswith (by rw [ends_us]; exact h)
  | true =>
    refine wpAny_call_entry FB.slot_bytes_endswith (typeIs_bytes _ _ _) FB.entry_bytes_endswith ?_ (FB.args_bytes_endswith_2 _ _)
    show wpAny _ _ (Bytes.tailMatchM .bytes "endswith" true ⟨[.bytes (ub l) t, .bytes (ub [47]) u], []⟩) _ _ s
    unfold Bytes.tailMatchM
    refine wpAny_bind (wpAny_of_eq (a := (.bytes (ub l) t, [.bytes (ub [47]) u])) rfl ?_)
    refine wpAny_bind (wpAny_of_eq (a := none) rfl ?_)
    refine wpAny_bind (wpAny_of_eq (a := none) rfl ?_)
    refine wpAny_bind (wpAny_of_eq (a := ub l) rfl ?_)
    refine wpAny_bind (wpAny_isInstance (v := .bytes (ub [47]) u) (typeIs_bytes _ _ _) (show isSubtype (.type "bytes") (.type "tuple") = pure false by rw [isSubtype_type]; kernel_rfl) ?_)
    simp only [Bool.false_eq_true, if_false]
    refine wpAny_bind (wpAny_of_eq KBy.buffer_eq ?_)
    refine wpAny_pure ⟨_, rfl, ?_⟩
    have e : (if (min ((ub l).size : Int) (if ((ub l).size : Int) < 0 then max 0 ((ub l).size + (ub l).size) else ((ub l).size : Int))) - 0 < ((ub [47]).size : Int) then false else
        (ub l).extract ((min ((ub l).size : Int) (if ((ub l).size : Int) < 0 then max 0 ((ub l).size + (ub l).size) else ((ub l).size : Int))).toNat - (ub [47]).size)
          (min ((ub l).size : Int) (if ((ub l).size : Int) < 0 then max 0 ((ub l).size + (ub l).size) else ((ub l).size : Int))).toNat == ub [47]) = endsL l := by
      have e1 : (ub [47]).size = 1 := rfl
      rw [e1, ub_size]
      have e2 : (min (l.length : Int) (if (l.length : Int) < 0 then max 0 ((l.length : Int) + l.length) else (l.length : Int))) = l.length := by
        rw [if_neg (by omega)]; omega
      rw [e2]
      unfold endsL
      rw [List.getLast?_eq_getElem?]
      cases l with
      | nil => rfl
      | cons a r =>
        rw [if_neg (by simp only [List.length_cons]; omega), ← ub47 hb]
        simp
    have := h
    rw [← e] at this
    exact this
theorem rfindT {oct : Bool} {l : T} {t u : Tok} (S : St0 c F mu s) (hb : Byt l) (h : ∀ s' t', St0 c F mu s' → Q (.int (((upTo l).length : Int) - 1) t') s') :
    wpAny (model prog w) A (call (.builtin (mid oct "bytes.rfind" "str.rfind")) [tx oct l t, tx oct [47] u]) Q E s := by
  cases oct with
  | false => exact SC.rfind (by rw [rfind_us]; exact h _ _ (S.tok _))
  | true =>
    refine wpAny_call_entry slot_bytes_rfind (typeIs_bytes _ _ _) entry_bytes_rfind ?_ (args_bytes_rfind _ _)
    have e : Bytes.searchArgs .bytes "rfind" ⟨[.bytes (ub l) t, .bytes (ub [47]) u], []⟩ = pure (ub l, ub [47], if (min ((ub l).size : Int) (if ((ub l).size : Int) < 0 then max 0 ((ub l).size + (ub l).size) else ((ub l).size : Int))) - 0 < ((ub [47]).size : Int) then none else
        some ((0 : Int).toNat, (min ((ub l).size : Int) (if ((ub l).size : Int) < 0 then max 0 ((ub l).size + (ub l).size) else ((ub l).size : Int))).toNat)) := by
      show (Bytes.buffer? "bytes.rfind" (.bytes (ub [47]) u) >>= _) = _
      rw [KBy.buffer_eq]
      rfl
    show wpAny _ _ (Bytes.searchArgs .bytes "rfind" ⟨[.bytes (ub l) t, .bytes (ub [47]) u], []⟩ >>= _) _ _ s
    refine wpAny_bind (wpAny_of_eq e ?_)
    have hw : (if (min ((ub l).size : Int) (if ((ub l).size : Int) < 0 then max 0 ((ub l).size + (ub l).size) else ((ub l).size : Int))) - 0 < ((ub [47]).size : Int) then none else
        some ((0 : Int).toNat, (min ((ub l).size : Int) (if ((ub l).size : Int) < 0 then max 0 ((ub l).size + (ub l).size) else ((ub l).size : Int))).toNat)) = if l = [] then none else some (0, (ub l).size) := by
      have e1 : (ub [47]).size = 1 := rfl
      rw [e1, ub_size]
      have e2 : (min (l.length : Int) (if (l.length : Int) < 0 then max 0 ((l.length : Int) + l.length) else (l.length : Int))) = l.length := by
        rw [if_neg (by omega)]; omega
      rw [e2]
      cases l with
      | nil => rfl
      | cons a r => rw [if_neg (by simp only [List.length_cons]; omega), if_neg (by simp)]; rfl
    rw [hw]
    have hr := rfind_ub hb
    by_cases hl : l = []
    · rw [if_pos hl]
      subst hl
      exact wpAny_bind (wpAny_rule (wpAny_bind (wpAny_mkInt (wpAny_pure ⟨_, rfl, h _ _ (S.tok _)⟩))))
    · rw [if_neg hl]
      show wpAny _ _ (match Bytes.rfind? (ub l) (ub [47]) 0 (ub l).size with | some i => retInt i | none => (do rule _; if false = true then raiseErrorWords "ValueError" "subsection not found" else retInt (-1))) _ _ s
      cases hf : Bytes.rfind? (ub l) (ub [47]) 0 (ub l).size with
      | none =>
        rw [hf] at hr
        have h' := h { s with toks := s.toks + 1 } s.toks (S.tok _)
        rw [← hr] at h'
        exact wpAny_bind (wpAny_rule (wpAny_bind (wpAny_mkInt (wpAny_pure ⟨_, rfl, h'⟩))))
      | some i =>
        rw [hf] at hr
        have h' := h { s with toks := s.toks + 1 } s.toks (S.tok _)
        rw [← hr] at h'
        exact wpAny_bind (wpAny_mkInt (wpAny_pure ⟨_, rfl, h'⟩))
theorem rstripT {oct : Bool} {l : T} {t u : Tok} (S : St0 c F mu s) (hb : Byt l) (hz : l.length ≤ 100000) (h : ∀ s' t', St0 c F mu s' → Q (tx oct (rstripL l) t') s') :
    wpAny (model prog w) A (call (.builtin (mid oct "bytes.rstrip" "str.rstrip")) [tx oct l t, tx oct [47] u]) Q E s := by
  cases oct with
  | false => exact SC.rstripChars (fun t' k => by rw [rstrip_us]; exact h _ _ (S.tok _)) (by rw [us_length]; show l.length ≤ 2 ^ 24; omega)
  | true =>
    refine wpAny_call_entry slot_bytes_rstrip (typeIs_bytes _ _ _) entry_bytes_rstrip ?_ (args_bytes_rstrip _ _)
    show wpAny _ _ (Bytes.bytesLike "bytes.rstrip" (.bytes (ub [47]) u) >>= _) _ _ s
    refine wpAny_bind (wpAny_of_eq like_eq ?_)
    refine wpAny_bind (wpAny_of_eq (a := (ub [47]).contains) rfl ?_)
    refine wpAny_bind (wpAny_of_eq (a := ub l) rfl ?_)
    have e : (if true = true then (List.dropWhile (ub [47]).contains (if false = true then List.dropWhile (ub [47]).contains (ub l).toList else (ub l).toList).reverse).reverse else (if false = true then List.dropWhile (ub [47]).contains (ub l).toList else (ub l).toList)) = (rstripL l).map UInt8.ofNat := by
      rw [if_pos rfl, if_neg Bool.false_ne_true]; exact rstrip_ub hb
    dsimp only
    rw [e]
    by_cases hq : (((rstripL l).map UInt8.ofNat).length == (ub l).size) = true
    · rw [if_pos hq]
      have hq' : rstripL l = l := rstripL_eq (by simpa [ub_size] using hq)
      have := h s t S
      rw [hq'] at this
      exact wpAny_bind (wpAny_rule (wpAny_bind (wpAny_of_eq (a := tx true l t) rfl (wpAny_pure ⟨_, rfl, this⟩))))
    · rw [if_neg hq]
      exact wpAny_bind (wpAny_mkBytes (wpAny_pure ⟨_, rfl, h _ _ (S.tok _)⟩) (by
        show (ub (rstripL l)).size ≤ 2 ^ 24
        rw [ub_size]; have := rstripL_le l; omega))
theorem splitT {oct : Bool} {l : T} {t u : Tok} (S : St c F L m mu s) (hb : Byt l) (hz : l.length ≤ 100000)
    (h : ∀ D s' vs, St c F L m ((D, lst vs) :: mu) s' → TxL oct (splitL l) vs → Q (.ref D) s') :
    wpAny (model prog w) A (call (.builtin (mid oct "bytes.split" "str.split")) [tx oct l t, tx oct [47] u]) Q E s := by
  cases oct with
  | true => exact split_bytes S hb hz fun D s' vs S' hv => h D s' vs S'.swap hv
  | false =>
    obtain ⟨news, F0, N0, back⟩ := adapt S
    refine splitN1 (x := us l) (y := us [47]) F0 N0 rfl (fun ps h' k e F' N' => ?_) (by rw [us_length]; show l.length + 2 ≤ 2 ^ 24; omega)
    rw [split_us] at e
    obtain ⟨K, S'⟩ := back h' m k F' fun p hp => N' p (.tail _ hp)
    have hD := N' _ (List.mem_cons_self)
    refine h _ _ (strValues ps) (St0.swap (St0.cons S' ?_ ?_ ?_ ⟨_, hD.1, rfl, rfl, _, rfl⟩)) ?_
    · exact (S.fresh_ne (get_none_size _)).1
    · exact (S.fresh_ne (get_none_size _)).2.1
    · exact (S.fresh_ne (get_none_size _)).2.2
    · clear N' hD back S' K
      have key : ∀ (qs : List T) (ps : List (PySem.Str × Tok)), ps.map (·.1) = qs.map us → TxL false qs (strValues ps) := by
        intro qs
        induction qs with
        | nil => intro ps e; cases ps with
          | nil => exact .nil
          | cons p r => cases e
        | cons q qs ih => intro ps e; cases ps with
          | nil => cases e
          | cons p r =>
            simp only [List.map_cons, List.cons.injEq] at e
            exact .cons ⟨p.2, by show Value.str p.1 p.2 = _; rw [e.1]; rfl⟩ (ih r e.2)
      exact key _ _ e
end
end Mine
end

section
/-! M8: more words on texts: join, +, *, ==, !=, <, len, truth, a cut, encode, the method's form. -/
set_option maxRecDepth 100000
namespace Mine
open PySem PySem.Calls PyProof.Rows PySem.W PySem.Builtin

theorem forRange {β : Type} {n : Nat} {f : Nat → β → Sem (ForInStep β)} {b0 : β} {M : Model} {A : Around} {E : Value → Shared → Prop} {s : Shared} {Q : β → Shared → Prop} (I : Nat → β → Prop)
    (hstep : ∀ i b, i < n → I i b → wpAny M A (f i b) (fun r s' => s' = s ∧ ∃ b', r = .yield b' ∧ I (i + 1) b') E s) (h0 : I 0 b0) (hQ : ∀ b, I n b → Q b s) : wpAny M A (forIn [:n] b0 f) Q E s := by
  rw [Std.Legacy.Range.forIn_eq_forIn_range']
  have hsz : ([:n] : Std.Legacy.Range).size = n := by simp [Std.Legacy.Range.size]
  show wpAny M A (forIn (List.range' 0 ([:n] : Std.Legacy.Range).size 1) b0 f) Q E s
  rw [hsz]
  refine wpAny_forIn_list f (fun l b s' => s' = s ∧ ∃ i, l = List.range' i (n - i) 1 ∧ i ≤ n ∧ I i b) Q ?_ ?_ _ _ ⟨rfl, 0, rfl, Nat.zero_le _, h0⟩
  · rintro x rest b s' ⟨rfl, i, hl, hi, hI⟩
    have hlt : i < n := by
      rcases Nat.lt_or_ge i n with h | h
      · exact h
      · have : n - i = 0 := by omega
        rw [this] at hl; cases hl
    have e : n - i = (n - (i + 1)) + 1 := by omega
    rw [e, List.range'_succ] at hl
    injection hl with h1 h2
    subst h1
    refine wpAny_mono (hstep _ b hlt hI) (fun r s'' hr => ?_) fun _ _ e => e
    obtain ⟨rfl, b', rfl, hI'⟩ := hr
    exact ⟨rfl, _, h2, hlt, hI'⟩
  · rintro b s' ⟨rfl, i, hl, hi, hI⟩
    have : i = n := by
      rcases Nat.lt_or_ge i n with h | h
      · have e : n - i = (n - (i + 1)) + 1 := by omega
        rw [e, List.range'_succ] at hl; cases hl
      · omega
    subst this
    exact hQ b hI
theorem take_quiet {b : Array UInt8} {t : Tok} {id : String} : Bytes.takeBufferQuiet? id (.bytes b t) 0 = pure (some (b, none)) := by
  unfold Bytes.takeBufferQuiet?
  have e : Bytes.takeBuffer? id (.bytes b t) 0 = pure (some (b, none)) := by
    unfold Bytes.takeBuffer?
    have e2 : Bytes.buffer? id (.bytes b t) (full := (0 : Int) == Bytes.fullReadOnly) = pure (some b) := KBy.buffer_eq
    rw [KBy.special_eq KBy.look_buffer, KBy.own_buffer, e2]
    kernel_rfl
  rw [e]; rfl
theorem joinLetGoS {M : Model} {A : Around} {E : Value → Shared → Prop} {s : Shared} {Q : Unit → Shared → Prop} (h : Q () s) : ∀ (l : List (Value × Option Value)) (keep : List Value), (∀ p ∈ l, p.2 = none) → wpAny M A (Bytes.joinLetGo l keep) Q E s
  | [], _, _ => wpAny_pure h
  | (x, w) :: r, keep, hw => by
    have : w = none := hw _ (List.mem_cons_self)
    subst this
    unfold Bytes.joinLetGo
    exact wpAny_bind (wpAny_letGo (joinLetGoS h r keep fun p hp => hw p (.tail _ hp)))
theorem TxL.get : ∀ {oct : Bool} {ps : List T} {vs : List Value}, TxL oct ps vs → ∀ i, i < ps.length → ∃ p t, ps[i]? = some p ∧ vs[i]? = some (tx oct p t)
  | _, _, _, .nil, i, h => absurd h (Nat.not_lt_zero _)
  | _, _, _, .cons (a := p) ⟨t, e⟩ r, 0, _ => ⟨p, t, rfl, by rw [e]; rfl⟩
  | _, _, _, .cons _ r, i + 1, h => by
    obtain ⟨p, t, h1, h2⟩ := TxL.get r i (Nat.lt_of_succ_lt_succ h)
    exact ⟨p, t, h1, h2⟩

section
variable {prog : Program} {w : World} {A : Around} {E : Value → Shared → Prop} {c : Cx} {F : Fz} {L : Addr} {m : PySem.Str → Option Value} {mu : Mu} {s : Shared} {Q : Value → Shared → Prop}

theorem tx_strs : ∀ {ps : List T} {vs : List Value}, TxL false ps vs → ∃ l : List (PySem.Str × Tok), vs = strValues l ∧ l.map (·.1) = ps.map us
  | _, _, .nil => ⟨[], rfl, rfl⟩
  | _, _, .cons (a := p) ⟨t, e⟩ r => by
    obtain ⟨l, e1, e2⟩ := tx_strs r
    exact ⟨(us p, t) :: l, by rw [e, e1]; rfl, by simp [e2]⟩
theorem addT {oct : Bool} {a b : T} {t u : Tok} (S : St0 c F mu s) (hz : a.length + b.length ≤ 1000000) (h : ∀ s' t', St0 c F mu s' → Q (tx oct (a ++ b) t') s') :
    wpAny (model prog w) A (binaryOp .Add (tx oct a t) (tx oct b u)) Q E s := by
  cases oct with
  | false => exact SB.add (fun t' k => by rw [us_append]; exact h _ _ (S.tok _)) (by rw [us_length, us_length]; show _ ≤ 2 ^ 24; omega)
  | true => exact KBy.add_bytes (by rw [ub_size, ub_size]; omega) fun t' k => by rw [ub_append]; exact h _ _ (S.tok _)
theorem iaddT {oct : Bool} {a b : T} {t u : Tok} (S : St0 c F mu s) (hz : a.length + b.length ≤ 1000000) (h : ∀ s' t', St0 c F mu s' → Q (tx oct (a ++ b) t') s') :
    wpAny (model prog w) A (inplaceOp .Add (tx oct a t) (tx oct b u)) Q E s := by
  cases oct with
  | false => exact SB.iadd (fun t' k => by rw [us_append]; exact h _ _ (S.tok _)) (by rw [us_length, us_length]; show _ ≤ 2 ^ 24; omega)
  | true =>
    refine wpAny_inplaceOp_concat (typeIs_bytes s _ t) (typeIs_bytes s _ u) (show typeLookup (.type "bytes") (dunderI "add") = pure none by rw [typeLookup_type, builtinLookup_eq_fast]; kernel_rfl) KBy.noFill_bytes_add KBy.seq_bytes_add
      (call_gives FB.slot_bytes_add (typeIs_bytes _ _ _) FB.entry_bytes_add (FB.args_bytes_add_2 _ _) (KBy.gives_bytes_add (KBy.tooLong_not (by rw [ub_size, ub_size]; omega))) ?_)
    have h' : ∀ t' k, Q (.bytes (ub a ++ ub b) t') { s with toks := k } := fun t' k => by rw [ub_append]; exact h _ _ (S.tok _)
    by_cases hb : (ub a).isEmpty = true
    · rw [if_pos hb]
      have e : ub a = #[] := Array.isEmpty_iff.1 hb
      have h'' := h' u s.toks
      rw [e, Array.empty_append] at h''
      exact h''
    · rw [if_neg hb]
      by_cases hc : (ub b).isEmpty = true
      · rw [if_pos hc]
        have e : ub b = #[] := Array.isEmpty_iff.1 hc
        have h'' := h' t s.toks
        rw [e, Array.append_empty] at h''
        exact h''
      · rw [if_neg hc]
        exact ⟨by rw [Array.size_append, ub_size, ub_size]; show _ ≤ 2 ^ 24; omega, h' s.toks (s.toks + 1)⟩
theorem lenT {oct : Bool} {a : T} {t : Tok} (S : St0 c F mu s) (hz : a.length ≤ 1000000) (h : ∀ s' t', St0 c F mu s' → Q (.int a.length t') s') :
    wpAny (model prog w) A (call (.builtin "len") [tx oct a t]) Q E s := by
  cases oct with
  | false => exact P.len_str (by rw [us_length]; omega) (by rw [us_length]; exact h _ _ (S.tok _))
  | true => exact len_bytes (by rw [ub_size]; omega) (by rw [ub_size]; exact h _ _ (S.tok _))
theorem truthT {oct : Bool} {a : T} {t : Tok} {Q : Bool → Shared → Prop} (S : St0 c F mu s) (hz : a.length ≤ 1000000) (h : ∀ s', St0 c F mu s' → Q (decide (a ≠ [])) s') :
    wpAny (model prog w) A (truthy (tx oct a t)) Q E s := by
  have e : ((a.length : Int) != 0) = decide (a ≠ []) := by
    cases a with
    | nil => rfl
    | cons x r => simp; omega
  cases oct with
  | false => exact KXt.truthy (by rw [us_length]; exact e) (by rw [us_length]; omega) fun k => h _ (S.tok _)
  | true => exact truthy_bytes (by rw [ub_size]; omega) (by rw [ub_size, e]; exact h _ (S.tok _))
theorem eqT {oct : Bool} {a b : T} {t u : Tok} (ha : Byt a) (hb : Byt b) (h : Q (.bool (decide (a = b))) s) :
    wpAny (model prog w) A (compareOp .Eq (tx oct a t) (tx oct b u)) Q E s := by
  have e : (a == b) = decide (a = b) := by rw [Bool.eq_iff_iff]; simp
  cases oct with
  | false => exact P.eq_str (by rw [us_toList, us_toList, e]; exact h)
  | true =>
    refine eq_bytes ?_
    have e2 : ((ub a).toList == (ub b).toList) = (a == b) := by
      rw [← map_beq ha hb]; simp [ub]
    rw [e2, e]; exact h
theorem neT {oct : Bool} {a b : T} {t u : Tok} (ha : Byt a) (hb : Byt b) (h : Q (.bool (decide (a ≠ b))) s) :
    wpAny (model prog w) A (compareOp .NotEq (tx oct a t) (tx oct b u)) Q E s := by
  have e : (a != b) = decide (a ≠ b) := by rw [Bool.eq_iff_iff]; simp
  cases oct with
  | false => exact P.ne_str (by rw [us_toList, us_toList, e]; exact h)
  | true =>
    refine ne_bytes ?_
    have e2 : ((ub a).toList != (ub b).toList) = (a != b) := by
      rw [bne, bne, ← map_beq ha hb]; simp [ub]
    rw [e2, e]; exact h
theorem mulT {oct : Bool} {n : Nat} {t u : Tok} (S : St0 c F mu s) (hz : n ≤ 100000) (h : ∀ s' t', St0 c F mu s' → Q (tx oct (List.replicate n 47) t') s') :
    wpAny (model prog w) A (binaryOp .Mult (tx oct [47] t) (.int n u)) Q E s := by
  cases oct with
  | false =>
    refine SB.mul (x := us [47]) (mulOk_of 1 100000 (by rw [us_length]; exact Nat.le_refl 1) (by omega) (by omega) (by decide) (by decide)) fun t' k => ?_
    have e : Txt.mul (us [47]) (n : Int) = us (List.replicate n 47) := by
      unfold Txt.mul
      by_cases h1 : (n : Int) < 1
      · rw [if_pos h1]
        have : n = 0 := by omega
        subst this; rfl
      · rw [if_neg h1]
        by_cases h2 : n = 1
        · subst h2; rfl
        · have h3 : ((n : Int) == 1 || (us [47]).length == 0) = false := by
            have : ((n : Int) == 1) = false := by simpa using (by omega : ¬ (n : Int) = 1)
            rw [this]; rfl
          rw [h3, if_neg Bool.false_ne_true]
          have key : ∀ (k : Nat) (acc : Array Nat), (List.replicate k (us [47]).cps).foldl (· ++ ·) acc = acc ++ (List.replicate k 47).toArray := by
            intro k
            induction k with
            | zero => intro acc; simp
            | succ k ih => intro acc; rw [List.replicate_succ, List.foldl_cons, ih, List.replicate_succ]; apply Array.toList_inj.mp; simp [us]
          rw [Int.toNat_natCast, key]; simp [us]
    rw [e]; exact h _ _ (S.tok _)
  | true =>
    refine bytes_mul_any (b := [47]) (by simp) (by omega) (by omega) (by simp) fun t' k => ?_
    have e : ((List.replicate (n : Int).toNat ([47] : List UInt8)).flatten).toArray = ub (List.replicate n 47) := by
      simp [ub, List.map_replicate]
    rw [e]; exact h _ _ (S.tok _)

theorem joinT {oct : Bool} {ps : List T} {t : Tok} {D : Addr} {vs : List Value} (S : St0 c F mu s) (hl : s.heap.IsList D vs.toArray) (hv : TxL oct ps vs) (hb : ∀ p ∈ ps, p.length ≤ 1000) (hn : ps.length ≤ 1000)
    (h : ∀ s' t', St0 c F mu s' → Q (tx oct (joinL ps) t') s') :
    wpAny (model prog w) A (call (.builtin (mid oct "bytes.join" "str.join")) [tx oct [47] t, .ref D]) Q E s := by
  have hlen : (joinL ps).length ≤ 1001 * 1000 := by
    have := joinL_len ps 1000 hb
    have h2 : ps.length * 1001 ≤ 1000 * 1001 := Nat.mul_le_mul_right _ hn
    omega
  cases oct with
  | false =>
    obtain ⟨l, e1, e2⟩ := tx_strs hv
    subst e1
    refine SC.join hl e2 ?_ fun t' k => ?_
    · unfold JoinOk
      rw [StrLaws.joinFits (B := 1000)]
      · rfl
      · intro y hy
        obtain ⟨p, hp, rfl⟩ := List.mem_map.mp hy
        rw [us_length]; exact hb p hp
      · rw [List.length_map, us_length]
        have h2 : ps.length * 1000 ≤ 1000 * 1000 := Nat.mul_le_mul_right _ hn
        show ps.length * 1000 + ps.length * 1 ≤ 16777216
        omega
    · have : Txt.join (us [47]) (ps.map us) = us (joinL ps) := by
        unfold Txt.join
        rw [StrLaws.glued_eq_join, join_us]
      rw [this]; exact h _ _ (S.tok _)
  | true =>
    refine wpAny_call_entry slot_bytes_join (typeIs_bytes _ _ _) entry_bytes_join ?_ (args_bytes_join _ _)
    show wpAny _ _ (Bytes.joinM .bytes ⟨[.bytes (ub [47]) t, .ref D], []⟩) _ _ s
    unfold Bytes.joinM
    refine wpAny_bind (wpAny_of_eq (a := (.bytes (ub [47]) t, .ref D)) rfl ?_)
    dsimp only
    rw [if_pos (show (Bytes.Kind.bytes == Bytes.Kind.bytes) = true from rfl)]
    obtain ⟨o, ho, hc, n, hd⟩ := id hl
    have hji : ∀ (Q' : Value → Shared → Prop) (E' : Value → Shared → Prop), Q' (.ref D) s → wpAny (model prog w) A.in1 (Bytes.joinItems (.ref D)) Q' E' s := fun Q' E' hq => by
      unfold Bytes.joinItems
      refine wpAny_bind (wpAny_typeOf (T := "list") ⟨o, ho, hc⟩ ?_)
      exact wpAny_pure hq
    refine wpAny_bind (hji _ _ ?_)
    have hseq : ∀ (Q' : Option (Array Value) → Shared → Prop) (E' : Value → Shared → Prop), Q' (some vs.toArray) s → wpAny (model prog w) A.in1 (seqItems? (.ref D)) Q' E' s := fun Q' E' hq => wpAny_seqItems ho hd hq
    refine wpAny_bind (hseq _ _ ?_)
    dsimp only
    rw [if_pos (show (Bytes.Kind.bytes == Bytes.Kind.bytes) = true from rfl)]
    have hvl := hv.length
    -- one item is handed back
    by_cases h1 : ps.length = 1
    · obtain ⟨p, rfl⟩ := List.length_eq_one_iff.mp h1
      cases hv with
      | cons hx hr =>
        cases hr
        obtain ⟨t', rfl⟩ := hx
        refine wpAny_bind (wpAny_typeOf (typeIs_bytes s (ub p) t') ?_)
        rw [if_pos (show (Value.type "bytes" == Value.type "bytes") = true from by decide)]
        exact wpAny_bind (wpAny_rule (wpAny_pure ⟨_, rfl, h _ _ S⟩))
    · have key : ∀ (one : Value → Sem PySem.Fin) (many : Sem PySem.Fin) (Q' : PySem.Fin → Shared → Prop) (E' : Value → Shared → Prop), wpAny (model prog w) A.in1 many Q' E' s →
          wpAny (model prog w) A.in1 (match vs.toArray with | #[x] => one x | _ => many) Q' E' s := by
        intro one many Q' E' hm
        clear hseq hji hd hl hv
        rcases vs with _ | ⟨x, _ | ⟨y, r⟩⟩
        · exact hm
        · exact absurd hvl h1
        · exact hm
      refine key _ _ _ _ ?_
      refine wpAny_bind (forRange (fun i (st : Array (Array UInt8) × List (Value × Option Value)) => st.1 = ((ps.take i).map ub).toArray ∧ (∀ p ∈ st.2, p.2 = none ∧ p.1.onHeap = false)) ?_ ⟨rfl, fun _ hp => nomatch hp⟩ ?_)
      · rintro i ⟨parts, taken⟩ hi ⟨hp, ht⟩
        dsimp only at hp ht ⊢
        subst hp
        rw [List.size_toArray] at hi
        refine wpAny_bind (hseq _ _ ?_)
        dsimp only
        obtain ⟨p, t', hpi, hvi⟩ := hv.get i (by omega)
        have hx : vs.toArray.getD i Value.none = tx true p t' := by
          have : vs.toArray[i]? = some (tx true p t') := by simpa using hvi
          rw [Array.getD_eq_getD_getElem?, this]; rfl
        have hany : (taken.any fun x => x.1.onHeap) = false := by
          rw [List.any_eq_false]
          intro x hx; rw [(ht x hx).2]; exact Bool.false_ne_true
        rw [hany, hx]
        rw [if_neg (show ¬ ((Bytes.Kind.bytes == Bytes.Kind.bytearray || false) = true) from by decide)]
        refine wpAny_bind (wpAny_holding (wpAny_of_eq take_quiet ?_))
        dsimp only
        refine wpAny_bind (hseq _ _ ?_)
        dsimp only
        rw [if_neg (show ¬ ((vs.toArray.size != vs.toArray.size) = true) from by simp)]
        refine wpAny_pure ⟨rfl, _, rfl, ?_, ?_⟩
        · rw [List.take_add_one, hpi]; simp
        · intro q hq
          rcases List.mem_append.mp hq with hq | hq
          · exact ht q hq
          · rw [List.mem_singleton.mp hq]; exact ⟨rfl, rfl⟩
      · rintro ⟨parts, taken⟩ ⟨hp, ht⟩
        dsimp only at hp ht ⊢
        have hall : ps.take vs.toArray.size = ps := List.take_of_length_le (by rw [List.size_toArray]; omega)
        rw [hall] at hp
        subst hp
        refine wpAny_bind (wpAny_of_eq (a := ub [47]) rfl ?_)
        have hsum : ∀ (l : List T) (k : Nat), (l.map ub).toArray.foldl (fun x1 x2 => x1 + x2.size) k = k + (l.map List.length).sum := by
          intro l
          induction l with
          | nil => intro k; rfl
          | cons q r ih => intro k; simp only [List.foldl_toArray, List.map_cons, List.foldl_cons, List.sum_cons] at ih ⊢; rw [ih, ub_size]; omega
        have hle : ∀ (l : List T), (∀ p ∈ l, p.length ≤ 1000) → (l.map List.length).sum ≤ l.length * 1000 := by
          intro l
          induction l with
          | nil => intro _; exact Nat.le_refl _
          | cons q r ih => intro hl; have := ih fun p hp => hl p (.tail _ hp); have := hl q (List.mem_cons_self); simp only [List.map_cons, List.sum_cons, List.length_cons]; omega
        have hlong : Bytes.tooLong ((ps.map ub).toArray.foldl (fun x1 x2 => x1 + x2.size) ((ub [47]).size * ((ps.map ub).toArray.size - 1))) = false := by
          refine KBy.tooLong_not ?_
          rw [hsum]
          have := hle ps hb
          have e1 : (ub [47]).size = 1 := rfl
          rw [e1, List.size_toArray, List.length_map]
          omega
        rw [hlong, if_neg Bool.false_ne_true]
        refine wpAny_bind ?_
        show wpAny _ _ (mkBytes (Bytes.joined (ub [47]) (ps.map ub).toArray.toList)) _ _ s
        rw [List.toList_toArray, joined_ub]
        refine wpAny_mkBytes ?_ (by rw [ub_size]; show _ ≤ 2 ^ 24; omega)
        refine wpAny_bind (wpAny_holding (wpAny_point (wpAny_bind (joinLetGoS ?_ _ _ fun p hp => (ht p hp).1))))
        exact wpAny_pure ⟨_, rfl, h _ _ (S.tok _)⟩
end
end Mine
end

section
/-! M9: encode, cuts, the form of a method's call, comparison. -/
set_option maxRecDepth 100000
namespace Mine
open PySem PySem.Calls PyProof.Rows PySem.W PySem.Builtin

section
variable {prog : Program} {w : World} {A : Around} {E : Value → Shared → Prop} {c : Cx} {F : Fz} {L : Addr} {m : PySem.Str → Option Value} {mu : Mu} {s : Shared} {Q : Value → Shared → Prop}

theorem args_str_encode (a b : Value) : argsOk "str.encode" ⟨[a, b], []⟩ := by unfold argsOk; kernel_rfl

theorem encodeT {l : T} {t u : Tok} (S : St0 c F mu s) (hb : Byt l) (hz : l.length ≤ 100000) (h : ∀ s' t', St0 c F mu s' → Q (tx true l t') s') :
    wpAny (model prog w) A (call (.builtin "str.encode") [tx false l t, .str "latin-1" u]) Q E s := by
  refine wpAny_call_entry PySem.F.slot_str_encode (typeIs_str _ _ _) PySem.F.entry_str_encode ?_ (args_str_encode _ _)
  show wpAny _ _ (Builtin.«str.encode» ⟨[.str (us l) t, .str "latin-1" u], []⟩) _ _ s
  unfold Builtin.«str.encode»
  refine wpAny_bind (wpAny_of_eq (a := (.str (us l) t, us l, [.str "latin-1" u])) rfl ?_)
  dsimp only
  have e1 : Str.bindOptional "str.encode" "encode" 0 ["encoding", "errors"] [.str "latin-1" u] [] = pure [some (.str "latin-1" u), none] := by kernel_rfl
  refine wpAny_bind (wpAny_of_eq e1 ?_)
  dsimp only
  have e2 : Str.codecArg "str.encode" "encode" "'encoding'" (some (.str "latin-1" u)) = pure (some ("latin-1" : PySem.Str)) := by kernel_rfl
  refine wpAny_bind (wpAny_of_eq e2 ?_)
  refine wpAny_bind (wpAny_of_eq (a := none) rfl ?_)
  show wpAny _ _ (_codecs.encodeRoad "str.encode" (.str (us l) t) (us l) "latin-1" none >>= fun r => ret r) _ _ s
  refine wpAny_bind ?_
  have e : _codecs.encodeRoad "str.encode" (.str (us l) t) (us l) "latin-1" none = (_codecs.encodeNarrow "str.encode" _codecs.latin1Codec none (.str (us l) t) (us l) >>= mkBytes) := by
    unfold _codecs.encodeRoad
    have : (_codecs.normalName "latin-1").toString = "latin_1" := by decide +kernel
    rw [this]
    rfl
  rw [e]
  refine wpAny_bind ?_
  unfold _codecs.encodeNarrow
  dsimp only
  refine wpAny_bind ?_
  rw [Std.Legacy.Range.forIn_eq_forIn_range']
  have hsz : ([:(us l).length] : Std.Legacy.Range).size = l.length := by simp [Std.Legacy.Range.size, us_length]
  have hst : ([:(us l).length] : Std.Legacy.Range).step = 1 := rfl
  have hlo : ([:(us l).length] : Std.Legacy.Range).start = 0 := rfl
  rw [hsz]
  have hbad : ∀ x ∈ l, _codecs.latin1Codec.bad x = false := fun x hx => by
    have := hb x hx
    show decide (x ≥ 256) = false
    exact decide_eq_false (by omega)
  refine wpAny_forIn_list _ (fun (rest : List Nat) (b : Nat × Array UInt8 × _codecs.Faults) s' => s' = s ∧ ((b.1 = 0 ∧ b.2.1 = #[] ∧ rest.length = l.length) ∨ (b.1 = l.length ∧ b.2.1 = ub l))) _ ?_ ?_ _ _ ⟨rfl, .inl ⟨rfl, rfl, by simp⟩⟩
  · rintro x rest ⟨i, out, st⟩ s' ⟨rfl, hI⟩
    dsimp only at hI ⊢
    have hmem : ¬ out.size > sizeLine := by
      rcases hI with ⟨_, h2, _⟩ | ⟨_, h2⟩
      · rw [h2]; exact fun e => nomatch e
      · rw [h2, ub_size]; show ¬ l.length > 2 ^ 24; omega
    rw [if_neg hmem]
    rcases hI with ⟨h1, h2, h3⟩ | ⟨h1, h2⟩
    · subst h1 h2
      cases l with
      | nil => cases h3
      | cons a r =>
        have e0 : (us (a :: r)).cps[0]? = some a := by simp [us]
        rw [e0]
        dsimp only
        rw [hbad a (List.mem_cons_self)]
        rw [if_pos (show (!false) = true from rfl)]
        refine wpAny_pure ⟨rfl, .inr ?_⟩
        have ex : (us (a :: r)).cps.extract 0 = (a :: r).toArray := by simp [us]
        have hf : Array.findIdx? _codecs.latin1Codec.bad (a :: r).toArray = none := by
          rw [Array.findIdx?_eq_none_iff]
          intro x hx
          exact hbad x (by simpa using hx)
        dsimp only
        rw [ex, hf]
        refine ⟨by simp, ?_⟩
        have key : ∀ (q : T) (acc : Array UInt8), q.foldl (fun acc y => acc ++ (_codecs.latin1Codec.bytesOf y).toArray) acc = acc ++ ub q := by
          intro q
          induction q with
          | nil => intro acc; simp [ub]
          | cons y q ih => intro acc; rw [List.foldl_cons, ih]; apply Array.toList_inj.mp; simp [ub, _codecs.latin1Codec]
        have := key (a :: r) #[]
        simpa using this
    · subst h1 h2
      have e0 : (us l).cps[l.length]? = none := by simp [us]
      rw [e0]
      dsimp only
      refine wpAny_pure ?_
      show wpAny _ _ _ _ _ _
      exact wpAny_pure (wpAny_mkBytes (wpAny_pure ⟨_, rfl, h _ _ (S.tok _)⟩) (by rw [ub_size]; show _ ≤ 2 ^ 24; omega))
  · rintro ⟨i, out, st⟩ s' ⟨rfl, hI⟩
    dsimp only at hI ⊢
    have ho : out = ub l := by
      rcases hI with ⟨h1, h2, h3⟩ | ⟨h1, h2⟩
      · have : l = [] := List.eq_nil_of_length_eq_zero h3.symm
        rw [h2, this]; rfl
      · exact h2
    subst ho
    exact wpAny_pure (wpAny_mkBytes (wpAny_pure ⟨_, rfl, h _ _ (S.tok _)⟩) (by rw [ub_size]; show _ ≤ 2 ^ 24; omega))
end
end Mine
end

section
/-! M10: the form of a method's call on a text; cuts; comparison by <. -/
set_option maxRecDepth 100000
namespace Mine
open PySem PySem.Calls PyProof.Rows PySem.W PySem.Builtin

structure MF (nm : PySem.Str) (bid sid : String) : Prop where
  ss : Slot "str" nm sid
  ts : typeOf (.builtin sid) = pure (.type "method_descriptor")
  sb : Slot "bytes" nm bid
  tb : typeOf (.builtin bid) = pure (.type "method_descriptor")
theorem mf_split : MF "split" "bytes.split" "str.split" := ⟨PySem.F.slot_str_split, PySem.F.type_str_split, slot_bytes_split, type_bytes_split⟩
theorem mf_starts : MF "startswith" "bytes.startswith" "str.startswith" := ⟨PySem.F.slot_str_startswith, PySem.F.type_str_startswith, FB.slot_bytes_startswith, FB.type_bytes_startswith⟩
theorem mf_ends : MF "endswith" "bytes.endswith" "str.endswith" := ⟨PySem.F.slot_str_endswith, PySem.F.type_str_endswith, FB.slot_bytes_endswith, FB.type_bytes_endswith⟩
theorem mf_rfind : MF "rfind" "bytes.rfind" "str.rfind" := ⟨PySem.F.slot_str_rfind, PySem.F.type_str_rfind, slot_bytes_rfind, type_bytes_rfind⟩
theorem mf_rstrip : MF "rstrip" "bytes.rstrip" "str.rstrip" := ⟨PySem.F.slot_str_rstrip, PySem.F.type_str_rstrip, slot_bytes_rstrip, type_bytes_rstrip⟩
theorem mf_join : MF "join" "bytes.join" "str.join" := ⟨PySem.F.slot_str_join, PySem.F.type_str_join, slot_bytes_join, type_bytes_join⟩

section
variable {prog : Program} {w : World} {A : Around} {E : Value → Shared → Prop} {s : Shared} {Q : Value → Shared → Prop} {env : Env}

theorem getMethT {M : Model} {oct : Bool} {nm : PySem.Str} {bid sid : String} (X : MF nm bid sid) {l : T} {t : Tok} {pl : Sem Bool} {Q : Value × List Value → Shared → Prop} (h : Q (.builtin (mid oct bid sid), [tx oct l t]) s) :
    wpAny M A (getMethod (tx oct l t) nm pl) Q E s := by
  cases oct with
  | false =>
    obtain ⟨g, h1, h2⟩ := PySem.F.plainAttrs_str.ga
    exact getMethod_value (T := "str") (typeIs_str _ _ _) (fun _ e => nomatch e) h1 h2 PySem.F.plainAttrs_str.noGetattr X.ss.lookup X.ts h
  | true =>
    obtain ⟨g, h1, h2⟩ := FB.plainAttrs_bytes.ga
    exact getMethod_value (T := "bytes") (typeIs_bytes _ _ _) (fun _ e => nomatch e) h1 h2 FB.plainAttrs_bytes.noGetattr X.sb.lookup X.tb h
theorem mcall1 {oct : Bool} {nm : PySem.Str} {bid sid : String} (X : MF nm bid sid) {o e : Expr} {apos pos : Pos} {pl : Sem Bool}
    (h : wpAny (model prog w) A (eval o env) (fun ov s₁ => ∃ l t, ov = tx oct l t ∧ wpAny (model prog w) A (eval e env) (fun v s₂ => wpAny (model prog w) A (call (.builtin (mid oct bid sid)) [tx oct l t, v]) Q E s₂) E s₁) E s)
    (he : eval (.Call (.Attribute o nm apos) [e] [] pos) env = (do
      let ov ← eval o env
      standAt apos.atName
      let (f, first) ← holding [ov] (getMethod ov nm pl)
      callWith pos f first (backTo pos (starEach [e] env)) []) := by rfl)
    (hs : starEach [e] env = (false, eval e env) :: starEach [] env := by rfl) :
    wpAny (model prog w) A (eval (.Call (.Attribute o nm apos) [e] [] pos) env) Q E s := by
  refine MethodCall_ (pl := pl) (wpAny_mono h (fun ov s₁ h₁ => ?_) fun _ _ e => e) he
  obtain ⟨l, t, rfl, h₁⟩ := h₁
  refine getMethT X ?_
  exact callWith_method1 (args_cons (wpAny_mono h₁ (fun v s₂ h₂ => args_nil h₂) fun _ _ e => e) hs) hs

theorem bounds_to {n len : Nat} (h : n < len) : sliceBounds none (some (n : Int)) none len = (0, (n : Int), 1) := by
  have h1 : ¬ ((n : Int) < 0) := by omega
  have h2 : (1 : Int) > 0 := by decide
  have h3 : max (0 : Int) (min (n : Int) (len : Int)) = n := by omega
  simp only [sliceBounds, Option.getD_none, h1, h2, if_true, if_false, h3]
/-- a text cut: t[:n] -/
theorem cutT {oct : Bool} {value u : Expr} {p pos : Pos}
    (h : wpAny (model prog w) A (eval value env) (fun o s₁ => ∃ l t, o = tx oct l t ∧ l.length ≤ 100000 ∧ wpAny (model prog w) A (eval u env) (fun j s₂ => ∃ (n : Nat) (t' : Tok) (c : Cx) (F : Fz) (mu : Mu), j = .int n t' ∧ n < l.length ∧ St0 c F mu s₂ ∧
      ∀ s' t'', St0 c F mu s' → Q (tx oct (l.take n) t'') s') E s₁) E s)
    (ht : ∀ o r, letTemporaryGo value o r = pure () := by intro _ _; rfl) :
    wpAny (model prog w) A (eval (.Subscript value (.Slice none (some u) none p) pos) env) Q E s := by
  refine Subscript_Slice (wpAny_mono h (fun o s₁ h₁ => ?_) fun _ _ e => e) ht
  obtain ⟨l, t, rfl, hl, h₁⟩ := h₁
  refine wpAny_Slice (evalPart_none_step (evalPart_some_step (wpAny_mono h₁ (fun j s₂ h₂ => ?_) fun _ _ e => e)))
  obtain ⟨n, t', c, F, mu, rfl, hn, S, h₂⟩ := h₂
  refine evalPart_none_step ?_
  have K : ∀ b o, s₂.heap.get? b = some o → (s₂.heap.push { cls := .type "slice", data := .fields #[.none, .int (n : Nat) t', .none] }).get? b = some o := fun b o e => Heap.get?_push_of_some _ e
  cases oct with
  | false =>
    refine SBH.sliceItem_ns (P := fun h => ∀ b o, s₂.heap.get? b = some o → h.get? b = some o) (fun h ob hp b o e => Heap.get?_push_of_some _ (hp b o e)) (fun _ _ e => e) (fun h' t'' k hp => ?_) (by rw [us_length]; show _ ≤ 2 ^ 24; omega)
    have e : Txt.slice (us l) none (some (n : Int)) = us (l.take n) := by
      have := PySem.StrLaws.sliceText_to (x := us l) (j := (n : Int)) ⟨by omega, by rw [us_toList]; omega⟩
      have e2 : Txt.slice (us l) none (some (n : Int)) = PySem.StrLaws.sliceText (us l) none (some (n : Int)) := rfl
      rw [e2, this, us_toList]
      simp [us]
    rw [e]
    exact h₂ _ _ (S.keep (s' := { s₂ with heap := h', toks := k }) hp rfl rfl)
  | true =>
    have hp : KBy.picked (ub l) none (some (n : Int)) = ub (l.take n) := by
      unfold KBy.picked
      have hb : sliceBounds none (some (n : Int)) none (ub l).size = (0, (n : Int), 1) := bounds_to (by rw [ub_size]; exact hn)
      rw [hb]
      unfold Bytes.sliced
      have e1 := sliceRange_one 0 n
      rw [show ((0 : Nat) : Int) = 0 from rfl] at e1
      rw [e1, pick_run]
      simp [ub, List.map_take]
    have hw : KBy.whole (ub l) none (some (n : Int)) = false := by
      unfold KBy.whole
      have hb : sliceBounds none (some (n : Int)) none (ub l).size = (0, (n : Int), 1) := bounds_to (by rw [ub_size]; exact hn)
      rw [hb, ub_size]
      have : ((n : Int) == (l.length : Int)) = false := beq_eq_false_iff_ne.mpr (by omega)
      simp [this]
    refine ⟨"bytes", _, FB.slot_bytes_getitem.lookup, typeIs_bytes _ _ _, getItem_meets (typeIs_bytes _ _ _) (by decide) FB.slot_bytes_getitem FB.entry_bytes_getitem (FB.args_bytes_getitem_2 _ _) (KBy.meets_slice (ub l) t _ .none (.int _ _) hw)
      ⟨Heap.IsSliceOf.new _ _ _ _, ?_, ?_⟩⟩
    · rw [hp, ub_size]; show _ ≤ 2 ^ 24; rw [List.length_take]; omega
    · rw [hp]
      exact h₂ _ _ (S.keep (s' := { s₂ with heap := _, toks := _ }) K rfl rfl)
end
end Mine
end

section
/-! M11: isinstance, type, issubclass of texts. -/
set_option maxRecDepth 100000
namespace Mine
open PySem PySem.Calls PyProof.Rows PySem.W PySem.Builtin

theorem ic_sub_str : isSubtype (.type "str") (.type "str") = pure true := by rw [isSubtype_type]; kernel_rfl
theorem ic_sub_bytes : isSubtype (.type "bytes") (.type "bytes") = pure true := by rw [isSubtype_type]; kernel_rfl
theorem ic_sub_bs : isSubtype (.type "bytes") (.type "str") = pure false := by rw [isSubtype_type]; kernel_rfl
theorem ic_sub_tt : isSubtype (.type "type") (.type "type") = pure true := by rw [isSubtype_type]; kernel_rfl
theorem kind_issubclass_nested : builtinKind "issubclass.nested" = none := by decide +kernel
theorem plain_issubclass_nested : plainId "issubclass.nested" = true := by decide +kernel
theorem args_issubclass_nested_3 (a b c : Value) : argsOk "issubclass.nested" ⟨[a, b, c], []⟩ := by unfold argsOk; kernel_rfl

section
variable {prog : Program} {w : World} {A : Around} {E : Value → Shared → Prop} {c : Cx} {F : Fz} {mu : Mu} {s : Shared} {Q : Value → Shared → Prop}

theorem tx_type (s : Shared) (oct : Bool) (l : T) (t : Tok) : s.TypeIs (tx oct l t) (mid oct "bytes" "str") := by
  cases oct
  · exact typeIs_str _ _ _
  · exact typeIs_bytes _ _ _
theorem isbytesT {oct : Bool} {l : T} {t : Tok} (S : St0 c F mu s) (h : ∀ s', St0 c F mu s' → Q (.bool oct) s') :
    wpAny (model prog w) A (call (.builtin "isinstance") [tx oct l t, .type "bytes"]) Q E s := by
  cases oct with
  | false => exact IsiPair.str_bytes (h _ (S.tok _))
  | true => exact call_isinstance (isinstance_true (Tx := "bytes") PySem.F.isi_meta_bytes (by rw [isSubtype_type]; kernel_rfl)) ⟨typeIs_bytes _ _ _, h _ S⟩
theorem typeT {oct : Bool} {l : T} {t : Tok} (h : Q (.type (mid oct "bytes" "str")) s) :
    wpAny (model prog w) A (call (.type "type") [tx oct l t]) Q E s := by
  cases oct with
  | false => exact call_type_of (Tx := "str") (typeIs_str _ _ _) (by decide) h
  | true => exact call_type_of (Tx := "bytes") (typeIs_bytes _ _ _) (by decide) h
theorem isub_nested {X : Bool} {C : String} {v : Bool} {dep : Int} {tk : Tok} {Q : Fin → Shared → Prop} (hm : typeOf (.type C) = pure (.type "type")) (hm' : typeOf (.type (mid X "bytes" "str")) = pure (.type "type")) (hsub : isSubtype (.type (mid X "bytes" "str")) (.type C) = pure v) (hq : Q (.done (.ret (.bool v))) s) :
    wpAny (model prog w) A (Builtin.«issubclass.nested» ⟨[.type (mid X "bytes" "str"), .type C, .int dep tk], []⟩) Q E s := by
  repeat (any_goals (first | assumption | (rw [if_pos hm]) | (rw [hsub]) | wp_step))
theorem meta_txt (X : Bool) : typeOf (.type (mid X "bytes" "str")) = pure (.type "type") := by
  cases X
  · exact PySem.F.isi_meta_str
  · exact PySem.F.isi_meta_bytes
theorem meta_str : typeOf (.type "str") = pure (.type "type") := meta_txt false
theorem meta_bytes : typeOf (.type "bytes") = pure (.type "type") := meta_txt true
theorem sub_txt_str (X : Bool) : isSubtype (.type (mid X "bytes" "str")) (.type "str") = pure (!X) := by
  cases X
  · exact ic_sub_str
  · exact ic_sub_bs
theorem isub_items {oct : Bool} {dep : Int} {Q : Option PySem.Fin × Unit → Shared → Prop} (h : Q (some (.done (.ret (.bool true))), ()) s) :
    wpAny (model prog w) A (forIn [Value.type "str", Value.type "bytes"] ((none : Option PySem.Fin), ()) fun c _ => do
      if ← truthy (← call (.builtin "issubclass.nested") [.type (mid oct "bytes" "str"), c, rawInt (dep + 1)]) then
        let r ← ret (.bool true)
        pure (ForInStep.done (some r, ()))
      else pure (ForInStep.yield (none, ()))) Q E s := by
  have one : ∀ (X : Bool) (C : String) (v : Bool) (Q' : Value → Shared → Prop) (E' : Value → Shared → Prop), typeOf (.type C) = pure (.type "type") → isSubtype (.type (mid X "bytes" "str")) (.type C) = pure v → Q' (.bool v) s →
      wpAny (model prog w) A (call (.builtin "issubclass.nested") [.type (mid X "bytes" "str"), .type C, rawInt (dep + 1)]) Q' E' s := fun X C v Q' E' hm hs hq =>
    call_function_meets kind_issubclass_nested plain_issubclass_nested F.entry_issubclass_nested (args_issubclass_nested_3 _ _ _)
      (S := fun _ R s => R (.ok (.ret (.bool v))) s) (fun _ _ _ _ _ hs' => isub_nested hm (meta_txt X) hs hs') hq
  rw [List.forIn_cons]
  refine wpAny_bind (wpAny_bind (one oct "str" (!oct) _ _ meta_str (sub_txt_str oct) ?_))
  refine wpAny_bind (m := truthy (.bool (!oct))) (wpAny_pure ?_)
  cases oct with
  | false => exact wpAny_bind (wpAny_pure (wpAny_pure (wpAny_pure h)))
  | true =>
    refine wpAny_pure ?_
    show wpAny _ _ (forIn [Value.type "bytes"] _ _) _ _ _
    rw [List.forIn_cons]
    refine wpAny_bind (wpAny_bind (one true "bytes" true _ _ meta_bytes ic_sub_bytes ?_))
    refine wpAny_bind (m := truthy (.bool true)) (wpAny_pure ?_)
    exact wpAny_bind (wpAny_pure (wpAny_pure (wpAny_pure h)))
theorem isub_tuple {oct : Bool} {tp : Addr} {tk : Tok} {cs : List Value} {Q : PySem.Fin → Shared → Prop} (hcs : cs = [.type "str", .type "bytes"]) (htp : s.heap.get? tp = some { cls := .type "tuple", data := .seq cs.toArray })
    (hq : Q (.done (.ret (.bool true))) s) : wpAny (model prog w) A (Builtin.«issubclass.nested» ⟨[.type (mid oct "bytes" "str"), .ref tp, .int 0 tk], []⟩) Q E s := by
  obtain ⟨h, g, d, t, os⟩ := s
  have hT2 : (⟨h, g, d, t, os⟩ : Shared).TypeIs (.ref tp) "tuple" := ⟨_, htp, rfl⟩
  have f1 := F.isi_sub_tuple
  have hm := meta_txt oct
  repeat (any_goals (first | assumption | wp_step))
  refine wpAny_arrayLoop ?_
  simp only [Option.getD_some, List.toList_toArray]
  subst hcs
  refine isub_items (dep := 0) ?_
  repeat (any_goals (first | assumption | wp_step))
theorem issubT {oct : Bool} {tp : Addr} (htp : s.heap.get? tp = some { cls := .type "tuple", data := .seq #[.type "str", .type "bytes"] }) (h : Q (.bool true) s) :
    wpAny (model prog w) A (call (.builtin "issubclass") [.type (mid oct "bytes" "str"), .ref tp]) Q E s :=
  call_issubclass (S := fun _ R s => s.heap.get? tp = some { cls := .type "tuple", data := .seq #[.type "str", .type "bytes"] } ∧ R (.ok (.ret (.bool true))) s)
    (fun _ _ _ _ _ hs => issubclass_outer (isub_tuple rfl hs.1 hs.2)) ⟨htp, h⟩
end
end Mine
end

section
/-! M12: texts and lists of texts compared. -/
set_option maxRecDepth 100000
set_option maxHeartbeats 4000000
namespace Mine
open PySem PySem.Calls PyProof.Rows PySem.W PySem.Builtin

theorem slot_bytes_gt : Slot "bytes" (cmpInfo .Gt).2.1 "bytes.__gt__" :=
  .of (owner := "bytes") (n := "__gt__") (by rw [typeLookup_type, builtinLookup_eq_fast]; kernel_rfl) (by decide +kernel) (by decide +kernel) (by decide +kernel)
    (by first | exact .inl (by decide +kernel) | exact .inr (by decide +kernel)) (by rw [isSubtype_type]; kernel_rfl)
theorem entry_bytes_gt : entryFor table "bytes.__gt__" = some Builtin.«bytes.__gt__» := entryFor_of_tree (by kernel_rfl)
theorem args_bytes_gt (a b : Value) : argsOk "bytes.__gt__" ⟨[a, b], []⟩ := by unfold argsOk; kernel_rfl

theorem order_lt : ∀ {a b : T}, Byt a → Byt b → (Bytes.order (a.map UInt8.ofNat) (b.map UInt8.ofNat) == .lt) = decide (a < b)
  | [], [], _, _ => by decide
  | [], y :: b, _, _ => by simp [Bytes.order]
  | x :: a, [], _, _ => by simp [Bytes.order]
  | x :: a, y :: b, ha, hb => by
    have hx := ha x (List.mem_cons_self)
    have hy := hb y (List.mem_cons_self)
    have ih := order_lt (a := a) (b := b) (fun c hc => ha c (.tail _ hc)) (fun c hc => hb c (.tail _ hc))
    have e1 : (UInt8.ofNat x < UInt8.ofNat y) ↔ x < y := by
      rw [UInt8.lt_iff_toNat_lt]; simp [Nat.mod_eq_of_lt hx, Nat.mod_eq_of_lt hy]
    have e2 : (UInt8.ofNat x > UInt8.ofNat y) ↔ y < x := by
      show UInt8.ofNat y < UInt8.ofNat x ↔ _
      rw [UInt8.lt_iff_toNat_lt]; simp [Nat.mod_eq_of_lt hx, Nat.mod_eq_of_lt hy]
    simp only [List.map_cons, Bytes.order, e1, e2, List.cons_lt_cons_iff]
    by_cases h1 : x < y
    · simp [h1]
    · rw [if_neg h1]
      by_cases h2 : y < x
      · rw [if_pos h2]
        have : ¬ (x = y) := by omega
        simp [h1, this]
      · rw [if_neg h2, ih]
        have : x = y := by omega
        simp [this]
theorem order_gt : ∀ (a b : List UInt8), (Bytes.order a b == .gt) = (Bytes.order b a == .lt)
  | [], [] | [], _ :: _ | _ :: _, [] => rfl
  | x :: a, y :: b => by
    simp only [Bytes.order]
    by_cases h1 : x < y
    · have h2 : ¬ (y < x) := fun h => absurd (UInt8.lt_trans h1 h) (UInt8.lt_irrefl _)
      have h3 : ¬ (x > y) := h2
      simp [h1, h3, h2]
    · by_cases h2 : x > y
      · have h3 : y < x := h2
        simp [h1, h2, h3]
      · have h3 : ¬ (y < x) := h2
        have h4 : ¬ (y > x) := h1
        simp [h1, h2, h3, h4, order_gt a b]
theorem gives_bytes_lt (b c : Array UInt8) (t u : Tok) : Gives («bytes.__lt__» ⟨[.bytes b t, .bytes c u], []⟩) (.val (.bool (Bytes.order b.toList c.toList == .lt))) := by
  refine .of_wp fun M A E s Q hq => ?_
  show wpAny M A (isInstance (.bytes c u) (.type "bytes") >>= fun r => _) _ E s
  refine wpAny_bind (wpAny_isInstance (typeIs_bytes s c u) PySem.F.sub_bytes_bytes ?_)
  exact wpAny_pure ⟨_, rfl, hq⟩
theorem gives_bytes_gt (b c : Array UInt8) (t u : Tok) : Gives («bytes.__gt__» ⟨[.bytes b t, .bytes c u], []⟩) (.val (.bool (Bytes.order b.toList c.toList == .gt))) := by
  refine .of_wp fun M A E s Q hq => ?_
  show wpAny M A (isInstance (.bytes c u) (.type "bytes") >>= fun r => _) _ E s
  refine wpAny_bind (wpAny_isInstance (typeIs_bytes s c u) PySem.F.sub_bytes_bytes ?_)
  exact wpAny_pure ⟨_, rfl, hq⟩

/-- an operator's answer, whatever the state -/
def OpAt (op : CmpOp) (A : Around) (s : Shared) (y x : Value) (b : Bool) : Prop :=
  ∀ (prog : Program) (w : World) (E : Value → Shared → Prop) (Q : Value → Shared → Prop), Q (.bool b) s → wpAny (model prog w) A (richCompare op y x) Q E s
def cop (gt : Bool) : CmpOp := if gt then .Gt else .Lt

section
variable {A : Around} {s : Shared}
theorem eqAt {oct : Bool} {a b : T} {t u : Tok} (ha : Byt a) (hb : Byt b) : SeqAt.EqAt A s (tx oct a t) (tx oct b u) (decide (a = b)) := fun prog w E Q h => by
  cases oct with
  | false =>
    have e : (us a == us b) = decide (a = b) := by rw [Bool.eq_iff_iff]; simp [us_inj]
    exact SeqAt.EqAt.str_str (us a) t (us b) u prog w E Q (by rw [e]; exact h)
  | true =>
    refine eqBool_bytes ?_
    have e : decide ((ub a).toList = (ub b).toList) = decide (a = b) := by
      rw [Bool.eq_iff_iff]; simp only [decide_eq_true_eq]
      rw [Array.toList_inj]; exact ub_inj ha hb
    rw [e]; exact h
theorem ltAt {oct : Bool} {a b : T} {t u : Tok} (ha : Byt a) (hb : Byt b) (gt : Bool) : OpAt (cop gt) A s (tx oct a t) (tx oct b u) (if gt then decide (b < a) else decide (a < b)) := fun prog w E Q h => by
  cases oct with
  | false =>
    cases gt with
    | false => exact P.lt_str (x := us a) (y := us b) (by rw [us_toList, us_toList]; exact h)
    | true => exact P.gt_str (x := us a) (y := us b) (by rw [us_toList, us_toList]; exact h)
  | true =>
    cases gt with
    | false =>
      refine compareOp_gives (op := .Lt) (typeIs_bytes s _ t) (typeIs_bytes s _ u) slot_bytes_lt entry_bytes_lt (args_bytes_lt _ _) (gives_bytes_lt _ _ t u) (fun e => nomatch e) ?_
      have e : (Bytes.order (ub a).toList (ub b).toList == .lt) = decide (a < b) := by rw [← order_lt ha hb]; simp [ub]
      rw [e]; exact h
    | true =>
      refine compareOp_gives (op := .Gt) (typeIs_bytes s _ t) (typeIs_bytes s _ u) slot_bytes_gt entry_bytes_gt (args_bytes_gt _ _) (gives_bytes_gt _ _ t u) (fun e => nomatch e) ?_
      have e : (Bytes.order (ub a).toList (ub b).toList == .gt) = decide (b < a) := by rw [order_gt, ← order_lt hb ha]; simp [ub]
      rw [e]; exact h
end

/-- rows before one another -/
def lexL : List T → List T → Bool
  | [], [] => false
  | [], _ :: _ => true
  | _ :: _, [] => false
  | a :: r, b :: q => if a = b then lexL r q else decide (a < b)
def lexG (gt : Bool) (a b : List T) : Bool := if gt then lexL b a else lexL a b
theorem lexG_nil_l (gt : Bool) (q : List T) : lexG gt [] q = (if gt then decide (q.length < 0) else decide (0 < q.length)) := by cases gt <;> cases q <;> simp [lexG, lexL]
theorem lexG_nil_r (gt : Bool) (q : List T) : lexG gt q [] = (if gt then decide (0 < q.length) else decide (q.length < 0)) := by cases gt <;> cases q <;> simp [lexG, lexL]
theorem lexG_cons (gt : Bool) (a b : T) (r q : List T) : lexG gt (a :: r) (b :: q) = if a = b then lexG gt r q else (if gt then decide (b < a) else decide (a < b)) := by
  cases gt <;> simp only [lexG, lexL, if_true, Bool.false_eq_true, if_false]
  by_cases h : a = b
  · simp [h]
  · have : ¬ b = a := fun e => h e.symm
    simp [h, this]

theorem slot_list_gt : Slot "list" (cmpInfo .Gt).2.1 "list.__gt__" := PySem.F.slot_list_gt
theorem cmp_loop (oct gt : Bool) (l b : Addr) (ps qs : List T) (vs ws : List Value) (n n2 : Nat) (dd dd2 : Option Addr) (sl sl2 : Array (Option Value)) (hv : TxL oct ps vs) (hw : TxL oct qs ws) (hb : ∀ p ∈ ps, Byt p) (hb2 : ∀ p ∈ qs, Byt p) (k : Nat) :
    ∀ i : Nat, ps.length - i = k → i ≤ ps.length → i ≤ qs.length → Meets (Builtin.«list.__eq__.loop» ⟨[.ref l, .ref b, rawInt i, rawInt (if gt then 4 else 0)], []⟩)
      (fun A R s => s.heap.get? l = some { cls := .type "list", dict := dd, data := .seq vs.toArray n, slots := sl } ∧ s.heap.get? b = some { cls := .type "list", dict := dd2, data := .seq ws.toArray n2, slots := sl2 } ∧
        R (.ok (.ret (.bool (lexG gt (ps.drop i) (qs.drop i))))) s) := by
  have hl1 := hv.length
  have hl2 := hw.length
  induction k with
  | zero =>
    intro i hk hi1 hi2 prog w A R s h
    obtain ⟨hp, g, d, tk, os⟩ := s; obtain ⟨hl, hb, h⟩ := h
    have hi : i = ps.length := by omega
    have e1 : vs.toArray[((i : Nat) : Int).toNat]? = none := by simp; omega
    have hd : ps.drop i = [] := by simp; omega
    rw [hd, lexG_nil_l] at h
    have hz : vs.toArray.size = i := by simp; omega
    have hz2 : (qs.drop i).length = ws.length - i := by simp; omega
    rw [hz2] at h
    cases gt with
    | false =>
      wp_walk using AutoSeq1.wpAny_loadPart' hl, AutoSeq1.wpAny_loadPart' hb
      rw [e1]
      wp_walk using AutoSeq1.wpAny_loadPart' hl, AutoSeq1.wpAny_loadPart' hb
      show R (.ok (.ret (.bool (decide (vs.toArray.size < ws.toArray.size))))) _
      rw [hz]
      have e : decide (i < ws.toArray.size) = decide (0 < ws.length - i) := by
        rw [Bool.eq_iff_iff]; simp only [decide_eq_true_eq, List.size_toArray]; omega
      rw [e]; exact h
    | true =>
      wp_walk using AutoSeq1.wpAny_loadPart' hl, AutoSeq1.wpAny_loadPart' hb
      rw [e1]
      wp_walk using AutoSeq1.wpAny_loadPart' hl, AutoSeq1.wpAny_loadPart' hb
      show R (.ok (.ret (.bool (decide (vs.toArray.size > ws.toArray.size))))) _
      rw [hz]
      have e : decide (i > ws.toArray.size) = decide (ws.length - i < 0) := by
        rw [Bool.eq_iff_iff]; simp only [decide_eq_true_eq, List.size_toArray]; omega
      rw [e]; exact h
  | succ k ih =>
    intro i hk hi1 hi2 prog w A R s h
    obtain ⟨hp, g, d, tk, os⟩ := s; obtain ⟨hl, hb', h⟩ := h
    obtain ⟨p, t, hpi, hvi⟩ := hv.get i (by omega)
    have e1 : vs.toArray[((i : Nat) : Int).toNat]? = some (tx oct p t) := by simpa using hvi
    have hlt : i < ps.length := by omega
    have hd : ps.drop i = p :: ps.drop (i + 1) := by
      have := List.getElem?_eq_some_iff.mp hpi
      obtain ⟨hh, e⟩ := this
      rw [← e]; exact List.drop_eq_getElem_cons hh
    have hbp : Byt p := hb p (List.mem_of_getElem? hpi)
    by_cases hq : i = qs.length
    · have hd2 : qs.drop i = [] := by simp; omega
      have e2 : ws.toArray[((i : Nat) : Int).toNat]? = none := by simp; omega
      rw [hd2, lexG_nil_r] at h
      have hz : ws.toArray.size = i := by simp; omega
      have hz2 : (ps.drop i).length = vs.length - i := by simp; omega
      rw [hz2] at h
      cases gt with
      | false =>
        wp_walk using AutoSeq1.wpAny_loadPart' hl, AutoSeq1.wpAny_loadPart' hb'
        rw [e1, e2]
        wp_walk using AutoSeq1.wpAny_loadPart' hl, AutoSeq1.wpAny_loadPart' hb'
        show R (.ok (.ret (.bool (decide (vs.toArray.size < ws.toArray.size))))) _
        rw [hz]
        have e : decide (vs.toArray.size < i) = decide (vs.length - i < 0) := by
          rw [Bool.eq_iff_iff]; simp only [decide_eq_true_eq, List.size_toArray]; omega
        rw [e]; exact h
      | true =>
        wp_walk using AutoSeq1.wpAny_loadPart' hl, AutoSeq1.wpAny_loadPart' hb'
        rw [e1, e2]
        wp_walk using AutoSeq1.wpAny_loadPart' hl, AutoSeq1.wpAny_loadPart' hb'
        show R (.ok (.ret (.bool (decide (vs.toArray.size > ws.toArray.size))))) _
        rw [hz]
        have e : decide (vs.toArray.size > i) = decide (0 < vs.length - i) := by
          rw [Bool.eq_iff_iff]; simp only [decide_eq_true_eq, List.size_toArray]; omega
        rw [e]; exact h
    · obtain ⟨q, u, hqi, hwi⟩ := hw.get i (by omega)
      have e2 : ws.toArray[((i : Nat) : Int).toNat]? = some (tx oct q u) := by simpa using hwi
      have hd2 : qs.drop i = q :: qs.drop (i + 1) := by
        have := List.getElem?_eq_some_iff.mp hqi
        obtain ⟨hh, e⟩ := this
        rw [← e]; exact List.drop_eq_getElem_cons hh
      have hbq : Byt q := hb2 q (List.mem_of_getElem? hqi)
      rw [hd, hd2, lexG_cons] at h
      have hc : ((i : Int) + 1) = ((i + 1 : Nat) : Int) := by push_cast; rfl
      cases gt with
      | false =>
        wp_walk using AutoSeq1.wpAny_loadPart' hl, AutoSeq1.wpAny_loadPart' hb'
        rw [e1, e2]
        refine wpAny_bind (eqAt hbp hbq prog w _ _ ?_)
        by_cases hpq : p = q
        · rw [decide_eq_true hpq]
          rw [if_pos hpq] at h
          wp_walk
          rw [hc]
          exact ⟨plainId_quiet MeetsSeq3.plain_eq_loop _, codeAny_builtin MeetsSeq3.entry_eq_loop (by
            rw [Around.under_plainId MeetsSeq3.plain_eq_loop _]
            exact ih (i + 1) (by omega) (by omega) (by omega) prog w A R _ ⟨hl, hb', h⟩)⟩
        · rw [decide_eq_false hpq]
          rw [if_neg hpq] at h
          wp_walk using AutoSeq1.wpAny_loadPart' hl, AutoSeq1.wpAny_loadPart' hb'
          rw [e1, e2]
          refine wpAny_bind (ltAt hbp hbq false prog w _ _ ?_)
          wp_walk
          exact h
      | true =>
        wp_walk using AutoSeq1.wpAny_loadPart' hl, AutoSeq1.wpAny_loadPart' hb'
        rw [e1, e2]
        refine wpAny_bind (eqAt hbp hbq prog w _ _ ?_)
        by_cases hpq : p = q
        · rw [decide_eq_true hpq]
          rw [if_pos hpq] at h
          wp_walk
          rw [hc]
          exact ⟨plainId_quiet MeetsSeq3.plain_eq_loop _, codeAny_builtin MeetsSeq3.entry_eq_loop (by
            rw [Around.under_plainId MeetsSeq3.plain_eq_loop _]
            exact ih (i + 1) (by omega) (by omega) (by omega) prog w A R _ ⟨hl, hb', h⟩)⟩
        · rw [decide_eq_false hpq]
          rw [if_neg hpq] at h
          wp_walk using AutoSeq1.wpAny_loadPart' hl, AutoSeq1.wpAny_loadPart' hb'
          rw [e1, e2]
          refine wpAny_bind (ltAt hbp hbq true prog w _ _ ?_)
          wp_walk
          exact h

theorem list_cmpAt (oct gt : Bool) (l b : Addr) (ps qs : List T) (vs ws : List Value) (n n2 : Nat) (dd dd2 : Option Addr) (sl sl2 : Array (Option Value)) (hv : TxL oct ps vs) (hw : TxL oct qs ws) (hb : ∀ p ∈ ps, Byt p) (hb2 : ∀ p ∈ qs, Byt p) :
    Meets (if gt then Builtin.«list.__gt__» ⟨[.ref l, .ref b], []⟩ else Builtin.«list.__lt__» ⟨[.ref l, .ref b], []⟩)
      (fun A R s => s.heap.get? l = some { cls := .type "list", dict := dd, data := .seq vs.toArray n, slots := sl } ∧ s.heap.get? b = some { cls := .type "list", dict := dd2, data := .seq ws.toArray n2, slots := sl2 } ∧
        R (.ok (.ret (.bool (lexG gt ps qs)))) s) := by
  intro prog w A R s h
  obtain ⟨hp, g, d, tk, os⟩ := s; obtain ⟨hl, hb', h⟩ := h
  have f3 := AutoSeq1.sub_list_list
  have fin := cmp_loop oct gt l b ps qs vs ws n n2 dd dd2 sl sl2 hv hw hb hb2 _ 0 rfl (Nat.zero_le _) (Nat.zero_le _) prog w A R ⟨hp, g, d, tk, os⟩ ⟨hl, hb', by simpa using h⟩
  cases gt with
  | false =>
    rw [if_neg Bool.false_ne_true]
    wp_walk using AutoSeq1.wpAny_loadPart' hl, AutoSeq1.wpAny_loadPart' hb'
    exact ⟨plainId_quiet MeetsSeq3.plain_eq_loop _, codeAny_builtin MeetsSeq3.entry_eq_loop (by
      rw [Around.under_plainId MeetsSeq3.plain_eq_loop _]
      exact fin)⟩
  | true =>
    rw [if_pos rfl]
    wp_walk using AutoSeq1.wpAny_loadPart' hl, AutoSeq1.wpAny_loadPart' hb'
    exact ⟨plainId_quiet MeetsSeq3.plain_eq_loop _, codeAny_builtin MeetsSeq3.entry_eq_loop (by
      rw [Around.under_plainId MeetsSeq3.plain_eq_loop _]
      exact fin)⟩

section
variable {A : Around} {s : Shared}
theorem ltLists {oct gt : Bool} {l b : Addr} {ps qs : List T} {vs ws : List Value} (hl : s.heap.IsList l vs.toArray) (hl2 : s.heap.IsList b ws.toArray) (hv : TxL oct ps vs) (hw : TxL oct qs ws) (hb : ∀ p ∈ ps, Byt p) (hb2 : ∀ p ∈ qs, Byt p) (hu : A.units < cLine) :
    OpAt (cop gt) A s (.ref l) (.ref b) (lexG gt ps qs) := fun prog w E Q h => by
  obtain ⟨⟨cls, dd, data, sl⟩, ho, hc, n, hd⟩ := id hl
  obtain ⟨⟨cls2, dd2, data2, sl2⟩, ho2, hc2, n2, hd2⟩ := id hl2
  simp only at hc hd hc2 hd2
  subst hc hd hc2 hd2
  have g := list_cmpAt oct gt l b ps qs vs ws n n2 dd dd2 sl sl2 hv hw hb hb2
  cases gt with
  | false =>
    exact richCompare_meets_room (op := .Lt) ⟨_, ho, rfl⟩ ⟨_, ho2, rfl⟩ PySem.F.slot_list_lt PySem.F.entry_list_lt (PySem.F.args_list_lt_2 _ _) g
      ⟨ho, ho2, show Value.bool (lexG false ps qs) ≠ Value.notImplemented ∧ Q (.bool (lexG false ps qs)) s from ⟨(fun x => nomatch x), h⟩⟩ hu
  | true =>
    exact richCompare_meets_room (op := .Gt) ⟨_, ho, rfl⟩ ⟨_, ho2, rfl⟩ PySem.F.slot_list_gt PySem.F.entry_list_gt (PySem.F.args_list_gt_2 _ _) g
      ⟨ho, ho2, show Value.bool (lexG true ps qs) ≠ Value.notImplemented ∧ Q (.bool (lexG true ps qs)) s from ⟨(fun x => nomatch x), h⟩⟩ hu
end
end Mine
end

section
/-! M13: min, max. -/
set_option maxRecDepth 100000
set_option maxHeartbeats 4000000
namespace Mine
open PySem PySem.Calls PyProof.Rows PySem.W PySem.Builtin

theorem objGone {c : Cx} {F : Fz} {mu : Mu} {s : Shared} {a : Addr} {P : Obj → Prop} {h' : Heap} {tk : Tok} (S : St0 c F ((a, P) :: mu) s) (hk : ∀ b o, b ≠ a → s.heap.get? b = some o → h'.get? b = some o) :
    St0 c F mu { s with heap := h', toks := tk } :=
  ⟨S.base, fun b o e => hk b o (fun z => by rw [z, (S.fr _ (List.mem_cons_self)).1] at e; cases e) (S.inn b o e), fun b o e => hk b o (fun z => by rw [z, (S.fr _ (List.mem_cons_self)).2] at e; cases e) (S.old b o e), S.le0, S.new,
    fun p hp => by obtain ⟨o, h1, h2⟩ := S.at' p (.tail _ hp); exact ⟨o, hk _ _ (S.ne p hp) h1, h2⟩, fun p hp => S.fr p (.tail _ hp), (List.nodup_cons.mp S.nd).2, S.os, S.gens⟩
theorem itGone {c : Cx} {F : Fz} {mu : Mu} {s : Shared} {a : Addr} {P : Obj → Prop} {h' : Heap} {tk : Tok} (S : St0 c F ((a, P) :: mu) s) (hk : ∀ b o, b ≠ a → s.heap.get? b = some o → h'.get? b = some o) :
    St0 c F mu { s with heap := h', toks := tk } := objGone S hk
theorem setS {c : Cx} {F : Fz} {mu : Mu} {s : Shared} {a : Addr} {P : Obj → Prop} {vs : List Value} {o : Obj} (S : St0 c F ((a, P) :: mu) s) (f : Array Value → Array Value) (ho : s.heap.get? a = some o) (hlo : lst vs o) :
    St0 c F ((a, lst (f vs.toArray).toList) :: mu) { s with heap := s.heap.update a (Obj.mapSeq f) } := by
  obtain ⟨hc, hdi, n, hd⟩ := hlo
  obtain ⟨n', hd'⟩ := Obj.data_mapSeq hd f
  refine S.upd (s' := { s with heap := s.heap.update a (Obj.mapSeq f) }) (fun b o hb e => (Heap.get?_update_other _ _ (Ne.symm hb)).trans e) ⟨_, Heap.get?_update_self _ ho (Obj.isFreed_of_seq hd'), (Obj.cls_mapSeq ..).trans hc, ?_, n', ?_⟩ rfl rfl
  · obtain ⟨c₀, d₀, dt₀, sl₀⟩ := o
    cases dt₀ <;> first | exact hdi | (cases hd)
  · rw [hd']

section
variable {prog : Program} {w : World} {A : Around} {E : Value → Shared → Prop} {c : Cx} {F : Fz} {mu : Mu} {s : Shared} {I : Addr} {n : Nat} {K : Nat → Obj → Prop} {item : Nat → Value → Prop} {bt : Nat → Nat → Bool}

theorem min_loop (hcmp : ∀ i j vi vj (s : Shared) (Q : Value → Shared → Prop) (E : Value → Shared → Prop), i < n → j < n → F.In s.heap → item i vi → item j vj → Q (.bool (bt i j)) s → wpAny (model prog w) A.in1 (richCompare .Lt vi vj) Q E s)
    (W : Iter prog w A.in1 F I n K item) {R : Result → Shared → Prop} {S : Addr} :
    ∀ (k j : Nat) (s : Shared) (vb : Value), n - (j + 1) = k → j + 1 ≤ n → item (argBest bt j) vb → argBest bt j < n →
    St0 c F ((S, lst [vb, vb]) :: (I, K (j + 1)) :: mu) s →
    (∀ v s', item (argBest bt (n - 1)) v → St0 c F mu s' → R (.ok (.ret v)) s') → codeAny (model prog w) A (.builtin "min.loop" ⟨[.ref I, .none, .ref S], []⟩) R s := by
  have hname : (toString "min" ++ toString ".loop" : String) = "min.loop" := by decide
  intro k
  induction k with
  | zero =>
    intro j s vb hk hj hvb hjn T hR
    have hin : j + 1 = n := by omega
    obtain ⟨o, ho, hlo⟩ := T.hd
    obtain ⟨hc, hdi, nn, hd⟩ := id hlo
    refine codeAny_builtin PySem.F.entry_min_loop ?_
    rw [Around.under_plainId PySem.F.plain_min_loop _]
    show wpAny _ A.in1 (seqItems? (.ref S) >>= _) _ _ s
    refine wpAny_bind (wpAny_seqItems ho hd ?_)
    show wpAny _ A.in1 (tryCatch (pyNext (.ref I)) _ >>= _) _ _ s
    have TI := T.swap.hd
    rw [hin] at TI
    refine wpAny_bind (wpAny_tryCatch (W.fin s _ _ T.inn TI fun h' tk hk' => ?_))
    have T' := itGone (tk := tk) T.swap hk'
    have hS' := hk' S o (fun e => T.ne _ (List.mem_cons_self) e.symm) ho
    show wpAny _ A.in1 (updateSeq S (fun _ => #[]) >>= _) _ _ _
    refine wpAny_bind ?_
    refine wpAny_updateSeq hS' hd (wpAny_bind (wpAny_letGo (wpAny_pure ?_)))
    refine hR vb _ (by rw [← hin]; exact hvb) ?_
    exact objGone T' fun b o hb e => (Heap.get?_update_other _ _ (Ne.symm hb)).trans e
  | succ k ih =>
    intro j s vb hk hj hvb hjn T hR
    have hlt : j + 1 < n := by omega
    obtain ⟨o, ho, hlo⟩ := T.hd
    obtain ⟨hc, hdi, nn, hd⟩ := id hlo
    refine codeAny_builtin PySem.F.entry_min_loop ?_
    rw [Around.under_plainId PySem.F.plain_min_loop _]
    show wpAny _ A.in1 (seqItems? (.ref S) >>= _) _ _ s
    refine wpAny_bind (wpAny_seqItems ho hd ?_)
    show wpAny _ A.in1 (tryCatch (pyNext (.ref I)) _ >>= _) _ _ s
    refine wpAny_bind (wpAny_tryCatch (W.next (j + 1) hlt s _ _ T.inn T.swap.hd fun v h' tk hv hk' hK => ?_))
    have T' : St0 c F ((S, lst [vb, vb]) :: (I, K (j + 1 + 1)) :: mu) { s with heap := h', toks := tk } := (T.swap.upd (s' := { s with heap := h', toks := tk }) hk' hK rfl rfl).swap
    have hS' := hk' S o (fun e => T.ne _ (List.mem_cons_self) e.symm) ho
    show wpAny _ A.in1 (tryCatch (holding [v, v] (richCompare .Lt v vb >>= _)) _ >>= _) _ _ _
    refine wpAny_bind (wpAny_tryCatch (wpAny_holding (wpAny_bind (hcmp (j + 1) (argBest bt j) v vb _ _ _ hlt hjn T'.inn hv hvb ?_))))
    refine wpAny_bind (wpAny_holding (wpAny_truthy_bool ?_))
    refine wpAny_bind (wpAny_letGo (wpAny_pure ?_))
    cases hb : bt (j + 1) (argBest bt j) with
    | true =>
      simp only [if_true]
      refine wpAny_bind ?_
      refine wpAny_updateSeq hS' hd (wpAny_bind (wpAny_letGo ?_))
      rw [hname]
      refine wpAny_pure ⟨plainId_quiet PySem.F.plain_min_loop _, ih (j + 1) _ v (by omega) hlt (by simp only [argBest, hb, if_true]; exact hv) (by simp only [argBest, hb, if_true]; exact hlt) (setS T' (fun _ => #[v, v]) hS' hlo) hR⟩
    | false =>
      simp only [Bool.false_eq_true, if_false]
      refine wpAny_bind (wpAny_letGo ?_)
      rw [hname]
      refine wpAny_pure ⟨plainId_quiet PySem.F.plain_min_loop _, ih (j + 1) _ vb (by omega) hlt (by simp only [argBest, hb, Bool.false_eq_true, if_false]; exact hvb) (by simp only [argBest, hb, Bool.false_eq_true, if_false]; exact hjn) T' hR⟩

theorem minS {x : Value} {Q : Value → Shared → Prop} (S : St0 c F mu s) (hit : ItOf prog w A.in1 F x n item) (hn : 0 < n) (bt : Nat → Nat → Bool)
    (hcmp : ∀ i j vi vj (s : Shared) (Q : Value → Shared → Prop) (E : Value → Shared → Prop), i < n → j < n → F.In s.heap → item i vi → item j vj → Q (.bool (bt i j)) s → wpAny (model prog w) A.in1 (richCompare .Lt vi vj) Q E s)
    (h : ∀ v s', item (argBest bt (n - 1)) v → St0 c F mu s' → Q v s') : wpAny (model prog w) A (call (.builtin "min") [x]) Q E s := by
  have hname : (toString "min" ++ toString ".loop" : String) = "min.loop" := by decide
  refine call_function_tree PySem.F.kind_min PySem.F.plain_min PySem.F.entry_min (PySem.F.args_min1 _) ?_
  show wpAny _ A.in1 (Builtin.Builtins.bindParams "min" ["key", "default"] 0 ⟨[], []⟩ >>= _) _ _ s
  refine wpAny_bind (wpAny_of_eq (show Builtin.Builtins.bindParams "min" ["key", "default"] 0 ⟨[], []⟩ = pure [none, none] from rfl) ?_)
  refine wpAny_bind (wpAny_pure ?_)
  refine wpAny_bind (hit s _ _ S.inn fun I K h₂ tk hI hk₂ hKI W => ?_)
  have T₂ : St0 c F ((I, K 0) :: mu) { s with heap := h₂, toks := tk } := S.new_at (s' := { s with heap := h₂, toks := tk }) hI hk₂ hKI rfl rfl
  refine wpAny_bind (newListS T₂ (by show (0 : Nat) ≤ 2 ^ 24; decide) fun D s₃ _ _ T₃ => ?_)
  rw [hname]
  refine wpAny_pure ⟨plainId_quiet PySem.F.plain_min_loop _, ?_⟩
  obtain ⟨o, ho, hlo⟩ := T₃.hd
  obtain ⟨hc, hdi, nn, hd⟩ := id hlo
  refine codeAny_builtin PySem.F.entry_min_loop ?_
  rw [Around.under_plainId PySem.F.plain_min_loop _]
  show wpAny _ A.in1 (seqItems? (.ref D) >>= _) _ _ _
  refine wpAny_bind (wpAny_seqItems ho hd ?_)
  show wpAny _ A.in1 (tryCatch (pyNext (.ref I)) _ >>= _) _ _ _
  refine wpAny_bind (wpAny_tryCatch (W.next 0 hn s₃ _ _ T₃.inn T₃.swap.hd fun v h' tk' hv hk' hK => ?_))
  have T' : St0 c F ((D, lst []) :: (I, K (0 + 1)) :: mu) { s₃ with heap := h', toks := tk' } := (T₃.swap.upd (s' := { s₃ with heap := h', toks := tk' }) hk' hK rfl rfl).swap
  have hS' := hk' D o (fun e => T₃.ne _ (List.mem_cons_self) e.symm) ho
  show wpAny _ A.in1 (updateSeq D (fun _ => #[v, v]) >>= _) _ _ _
  refine wpAny_bind ?_
  refine wpAny_updateSeq hS' hd ?_
  rw [hname]
  exact wpAny_pure ⟨plainId_quiet PySem.F.plain_min_loop _, min_loop hcmp W (n - 1) 0 _ v (by omega) hn hv hn (setS T' (fun _ => #[v, v]) hS' hlo) h⟩

theorem max_loop (hcmp : ∀ i j vi vj (s : Shared) (Q : Value → Shared → Prop) (E : Value → Shared → Prop), i < n → j < n → F.In s.heap → item i vi → item j vj → Q (.bool (bt i j)) s → wpAny (model prog w) A.in1 (richCompare .Gt vi vj) Q E s)
    (W : Iter prog w A.in1 F I n K item) {R : Result → Shared → Prop} {S : Addr} :
    ∀ (k j : Nat) (s : Shared) (vb : Value), n - (j + 1) = k → j + 1 ≤ n → item (argBest bt j) vb → argBest bt j < n →
    St0 c F ((S, lst [vb, vb]) :: (I, K (j + 1)) :: mu) s →
    (∀ v s', item (argBest bt (n - 1)) v → St0 c F mu s' → R (.ok (.ret v)) s') → codeAny (model prog w) A (.builtin "max.loop" ⟨[.ref I, .none, .ref S], []⟩) R s := by
  have hname : (toString "max" ++ toString ".loop" : String) = "max.loop" := by decide
  intro k
  induction k with
  | zero =>
    intro j s vb hk hj hvb hjn T hR
    have hin : j + 1 = n := by omega
    obtain ⟨o, ho, hlo⟩ := T.hd
    obtain ⟨hc, hdi, nn, hd⟩ := id hlo
    refine codeAny_builtin PySem.F.entry_max_loop ?_
    rw [Around.under_plainId PySem.F.plain_max_loop _]
    show wpAny _ A.in1 (seqItems? (.ref S) >>= _) _ _ s
    refine wpAny_bind (wpAny_seqItems ho hd ?_)
    show wpAny _ A.in1 (tryCatch (pyNext (.ref I)) _ >>= _) _ _ s
    have TI := T.swap.hd
    rw [hin] at TI
    refine wpAny_bind (wpAny_tryCatch (W.fin s _ _ T.inn TI fun h' tk hk' => ?_))
    have T' := itGone (tk := tk) T.swap hk'
    have hS' := hk' S o (fun e => T.ne _ (List.mem_cons_self) e.symm) ho
    show wpAny _ A.in1 (updateSeq S (fun _ => #[]) >>= _) _ _ _
    refine wpAny_bind ?_
    refine wpAny_updateSeq hS' hd (wpAny_bind (wpAny_letGo (wpAny_pure ?_)))
    refine hR vb _ (by rw [← hin]; exact hvb) ?_
    exact objGone T' fun b o hb e => (Heap.get?_update_other _ _ (Ne.symm hb)).trans e
  | succ k ih =>
    intro j s vb hk hj hvb hjn T hR
    have hlt : j + 1 < n := by omega
    obtain ⟨o, ho, hlo⟩ := T.hd
    obtain ⟨hc, hdi, nn, hd⟩ := id hlo
    refine codeAny_builtin PySem.F.entry_max_loop ?_
    rw [Around.under_plainId PySem.F.plain_max_loop _]
    show wpAny _ A.in1 (seqItems? (.ref S) >>= _) _ _ s
    refine wpAny_bind (wpAny_seqItems ho hd ?_)
    show wpAny _ A.in1 (tryCatch (pyNext (.ref I)) _ >>= _) _ _ s
    refine wpAny_bind (wpAny_tryCatch (W.next (j + 1) hlt s _ _ T.inn T.swap.hd fun v h' tk hv hk' hK => ?_))
    have T' : St0 c F ((S, lst [vb, vb]) :: (I, K (j + 1 + 1)) :: mu) { s with heap := h', toks := tk } := (T.swap.upd (s' := { s with heap := h', toks := tk }) hk' hK rfl rfl).swap
    have hS' := hk' S o (fun e => T.ne _ (List.mem_cons_self) e.symm) ho
    show wpAny _ A.in1 (tryCatch (holding [v, v] (richCompare .Gt v vb >>= _)) _ >>= _) _ _ _
    refine wpAny_bind (wpAny_tryCatch (wpAny_holding (wpAny_bind (hcmp (j + 1) (argBest bt j) v vb _ _ _ hlt hjn T'.inn hv hvb ?_))))
    refine wpAny_bind (wpAny_holding (wpAny_truthy_bool ?_))
    refine wpAny_bind (wpAny_letGo (wpAny_pure ?_))
    cases hb : bt (j + 1) (argBest bt j) with
    | true =>
      simp only [if_true]
      refine wpAny_bind ?_
      refine wpAny_updateSeq hS' hd (wpAny_bind (wpAny_letGo ?_))
      rw [hname]
      refine wpAny_pure ⟨plainId_quiet PySem.F.plain_max_loop _, ih (j + 1) _ v (by omega) hlt (by simp only [argBest, hb, if_true]; exact hv) (by simp only [argBest, hb, if_true]; exact hlt) (setS T' (fun _ => #[v, v]) hS' hlo) hR⟩
    | false =>
      simp only [Bool.false_eq_true, if_false]
      refine wpAny_bind (wpAny_letGo ?_)
      rw [hname]
      refine wpAny_pure ⟨plainId_quiet PySem.F.plain_max_loop _, ih (j + 1) _ vb (by omega) hlt (by simp only [argBest, hb, Bool.false_eq_true, if_false]; exact hvb) (by simp only [argBest, hb, Bool.false_eq_true, if_false]; exact hjn) T' hR⟩

theorem maxS {x : Value} {Q : Value → Shared → Prop} (S : St0 c F mu s) (hit : ItOf prog w A.in1 F x n item) (hn : 0 < n) (bt : Nat → Nat → Bool)
    (hcmp : ∀ i j vi vj (s : Shared) (Q : Value → Shared → Prop) (E : Value → Shared → Prop), i < n → j < n → F.In s.heap → item i vi → item j vj → Q (.bool (bt i j)) s → wpAny (model prog w) A.in1 (richCompare .Gt vi vj) Q E s)
    (h : ∀ v s', item (argBest bt (n - 1)) v → St0 c F mu s' → Q v s') : wpAny (model prog w) A (call (.builtin "max") [x]) Q E s := by
  have hname : (toString "max" ++ toString ".loop" : String) = "max.loop" := by decide
  refine call_function_tree PySem.F.kind_max PySem.F.plain_max PySem.F.entry_max (PySem.F.args_max1 _) ?_
  show wpAny _ A.in1 (Builtin.Builtins.bindParams "max" ["key", "default"] 0 ⟨[], []⟩ >>= _) _ _ s
  refine wpAny_bind (wpAny_of_eq (show Builtin.Builtins.bindParams "max" ["key", "default"] 0 ⟨[], []⟩ = pure [none, none] from rfl) ?_)
  refine wpAny_bind (wpAny_pure ?_)
  refine wpAny_bind (hit s _ _ S.inn fun I K h₂ tk hI hk₂ hKI W => ?_)
  have T₂ : St0 c F ((I, K 0) :: mu) { s with heap := h₂, toks := tk } := S.new_at (s' := { s with heap := h₂, toks := tk }) hI hk₂ hKI rfl rfl
  refine wpAny_bind (newListS T₂ (by show (0 : Nat) ≤ 2 ^ 24; decide) fun D s₃ _ _ T₃ => ?_)
  rw [hname]
  refine wpAny_pure ⟨plainId_quiet PySem.F.plain_max_loop _, ?_⟩
  obtain ⟨o, ho, hlo⟩ := T₃.hd
  obtain ⟨hc, hdi, nn, hd⟩ := id hlo
  refine codeAny_builtin PySem.F.entry_max_loop ?_
  rw [Around.under_plainId PySem.F.plain_max_loop _]
  show wpAny _ A.in1 (seqItems? (.ref D) >>= _) _ _ _
  refine wpAny_bind (wpAny_seqItems ho hd ?_)
  show wpAny _ A.in1 (tryCatch (pyNext (.ref I)) _ >>= _) _ _ _
  refine wpAny_bind (wpAny_tryCatch (W.next 0 hn s₃ _ _ T₃.inn T₃.swap.hd fun v h' tk' hv hk' hK => ?_))
  have T' : St0 c F ((D, lst []) :: (I, K (0 + 1)) :: mu) { s₃ with heap := h', toks := tk' } := (T₃.swap.upd (s' := { s₃ with heap := h', toks := tk' }) hk' hK rfl rfl).swap
  have hS' := hk' D o (fun e => T₃.ne _ (List.mem_cons_self) e.symm) ho
  show wpAny _ A.in1 (updateSeq D (fun _ => #[v, v]) >>= _) _ _ _
  refine wpAny_bind ?_
  refine wpAny_updateSeq hS' hd ?_
  rw [hname]
  exact wpAny_pure ⟨plainId_quiet PySem.F.plain_max_loop _, max_loop hcmp W (n - 1) 0 _ v (by omega) hn hv hn (setS T' (fun _ => #[v, v]) hS' hlo) h⟩
end
end Mine
end

section
/-! M14: frozen tuples and lists, ranges, tuples walked, index, cut, len, truth. -/
set_option maxRecDepth 100000
set_option maxHeartbeats 4000000
namespace Mine
open PySem PySem.Calls PyProof.Rows PySem.W PySem.Builtin

def STup (F : Fz) (v : Value) (vs : List Value) : Prop := ∃ a o, v = .ref a ∧ F a = some o ∧ o.cls = .type "tuple" ∧ ∃ n, o.data = .seq vs.toArray n
theorem STup.le {F G : Fz} {v : Value} {vs : List Value} (h : STup F v vs) (l : F.Le G) : STup G v vs := let ⟨a, o, e, ho, x⟩ := h; ⟨a, o, e, l _ _ ho, x⟩
theorem STup.isTup {F : Fz} {a : Addr} {vs : List Value} {h : Heap} (x : STup F (.ref a) vs) (i : F.In h) : IsTup h a vs.toArray := by
  obtain ⟨a', o, e, ho, hc, n, hd⟩ := x
  cases e
  exact ⟨o, i _ _ ho, hc, n, hd⟩

section
variable {c : Cx} {F : Fz} {mu : Mu} {s : Shared}
theorem St0.pushF (S : St0 c F mu s) (o : Obj) (hf : o.isFreed = false) :
    F.Le (F.put s.heap.objs.size o) ∧ St0 c (F.put s.heap.objs.size o) mu { s with heap := s.heap.push o } := by
  obtain ⟨o', hP, hle, _, S'⟩ := (S.push (P := fun x => x = o) o hf rfl).freeze
  cases hP
  exact ⟨hle, S'⟩
end

section
variable {prog : Program} {w : World} {A : Around} {E : Value → Shared → Prop} {c : Cx} {F : Fz} {mu : Mu} {s : Shared}

theorem newTupleS {vs : List Value} {Q : Value → Shared → Prop} (S : St0 c F mu s) (hz : vs.length ≤ 100000)
    (h : ∀ a F' s', F.Le F' → St0 c F' mu s' → F' a = some { cls := .type "tuple", data := .seq vs.toArray } → STup F' (.ref a) vs → Q (.ref a) s') :
    wpAny (model prog w) A (newTuple vs) Q E s := by
  obtain ⟨hle, S'⟩ := S.pushF { cls := .type "tuple", data := .seq vs.toArray } rfl
  exact wpAny_newTuple (h _ _ _ hle S' (Fz.put_self _ _ _) ⟨_, _, rfl, Fz.put_self _ _ _, rfl, _, rfl⟩) (by show vs.length ≤ 2 ^ 24; omega)
theorem newListF {vs : List Value} {Q : Value → Shared → Prop} (S : St0 c F mu s) (hz : vs.length ≤ 100000)
    (h : ∀ a F' s', F.Le F' → St0 c F' mu s' → SList F' (.ref a) vs → Q (.ref a) s') : wpAny (model prog w) A (newList vs) Q E s :=
  newListS S (by show vs.length ≤ 2 ^ 24; omega) fun a s' _ _ S' => by
    obtain ⟨o, hP, hle, hput, S''⟩ := S'.freeze
    exact h a _ s' hle S'' ⟨a, o, rfl, hput, hP⟩

theorem itRange (hh : A.handled = none) {r : Addr} {a b : Int} {t u v : Tok} {n : Nat} (hr : F r = some { cls := .type "range", dict := none, data := .fields #[.int a t, .int b u, .int 1 v], slots := #[] })
    (ha : -1000000 ≤ a) (ha' : a ≤ 1000000) (hb : -1000000 ≤ b) (hb' : b ≤ 1000000) (hn : (n : Int) = if a < b then b - a else 0) :
    ItOf prog w A F (.ref r) n (fun i v => ∃ t, v = .int (a + i) t) := by
  intro s Q E hF hQ
  refine wpAny_pyIter_range (hF _ _ hr) (small_one (by omega) (by omega) (by omega) (by omega)) ?_
  have hsz : Builtin.Range.rangeSize a b 1 = n := by rw [rangeSize_one, hn]
  rw [hsz]
  refine hQ s.heap.objs.size (fun i o => o = { cls := .type "range_iterator", dict := none, data := .fields #[rawInt (a + (i : Nat)), rawInt ((n : Int) - (i : Nat)), rawInt 1], slots := #[] }) _ s.toks (get_none_size _) (fun b o e => Heap.get?_push_of_some _ e)
    ⟨_, Heap.get?_push_size _ rfl, by simp⟩ ⟨?_, ?_, ?_, ?_⟩
  · rintro i hi s' Q E hF' ⟨o, ho, rfl⟩ hq
    refine wpAny_pyNext_range_item (x := a + (i : Nat)) (left := (n : Int) - (i : Nat)) (step := 1) ho (by omega) fun h' hit hs => ?_
    refine hq _ h' _ ⟨_, rfl⟩ (fun b o hb e => (hs.2 b hb).trans e) ⟨_, hit, ?_⟩
    have e1 : a + (i : Int) + 1 = a + ((i + 1 : Nat) : Int) := by push_cast; omega
    have e2 : (n : Int) - (i : Int) - 1 = (n : Int) - ((i + 1 : Nat) : Int) := by push_cast; omega
    rw [e1, e2]
  · rintro s' Q E hF' ⟨o, ho, rfl⟩ hq
    exact wpAny_pyNext_range_end hh (x := a + (n : Nat)) (left := (n : Int) - (n : Nat)) (step := 1) ho (by omega) fun h' hs => hq h' s'.toks fun b o hb e => hs b o hb e
  · rintro s' Q E hF' ⟨o, ho, rfl⟩ hq
    exact wpAny_pyIter_rangeiter (x := a + (0 : Nat)) (left := (n : Int) - (0 : Nat)) (step := 1) ho hq
  · rintro i target v s' Q E ⟨o, ho, rfl⟩ hq
    exact goPlain target v ho rfl (by decide) hq

theorem range1 {n : Nat} {t : Tok} {Q : Value → Shared → Prop} (S : St0 c F mu s) (hn : n ≤ 1000000)
    (h : ∀ r F' s', F.Le F' → St0 c F' mu s' → (∀ B : Around, B.handled = none → ItOf prog w B F' r n (fun i v => ∃ t, v = .int (i : Nat) t)) → Q r s') :
    wpAny (model prog w) A (call (.type "range") [.int n t]) Q E s := by
  refine call_range_1 ?_
  obtain ⟨hle, S'⟩ := S.pushF { cls := .type "range", data := .fields #[.int 0 s.toks, .int n t, .int 1 (s.toks + 1)] } rfl
  have hp := Fz.put_self F s.heap.objs.size { cls := .type "range", data := .fields #[.int 0 s.toks, .int n t, .int 1 (s.toks + 1)] }
  refine h _ _ _ hle (S'.same (s' := { s with heap := _, toks := s.toks + 1 + 1 }) rfl rfl rfl) fun B hB => ?_
  have := itRange (prog := prog) (w := w) (A := B) (n := n) hB hp (by omega) (by omega) (by omega) (by omega) (by split <;> omega)
  simpa using this
theorem range2 {a b : Nat} {t u : Tok} {Q : Value → Shared → Prop} (S : St0 c F mu s) (ha : a ≤ 1000000) (hb : b ≤ 1000000)
    (h : ∀ r F' s', F.Le F' → St0 c F' mu s' → (∀ B : Around, B.handled = none → ItOf prog w B F' r (b - a) (fun i v => ∃ t, v = .int ((a + i : Nat) : Int) t)) → Q r s') :
    wpAny (model prog w) A (call (.type "range") [.int a t, .int b u]) Q E s := by
  refine call_range_2 ?_
  obtain ⟨hle, S'⟩ := S.pushF { cls := .type "range", data := .fields #[.int a t, .int b u, .int 1 s.toks] } rfl
  have hp := Fz.put_self F s.heap.objs.size { cls := .type "range", data := .fields #[.int a t, .int b u, .int 1 s.toks] }
  refine h _ _ _ hle (S'.same (s' := { s with heap := _, toks := s.toks + 1 }) rfl rfl rfl) fun B hB => ?_
  have := itRange (prog := prog) (w := w) (A := B) (n := b - a) hB hp (by omega) (by omega) (by omega) (by omega) (by split <;> omega)
  simpa using this

theorem itTup (hh : A.handled = none) {x : Value} {vs : List Value} (hx : STup F x vs) : ItOf prog w A F x vs.length (fun i v => vs[i]? = some v) := by
  obtain ⟨l, ol, rfl, hl, hlo⟩ := id hx
  intro s Q E hF hQ
  have T : ∀ h : Heap, F.In h → h.IsTuple l vs.toArray := fun h hF' => hx.isTup hF'
  refine wpAny_pyIter_tuple (T _ hF) ?_
  refine hQ s.heap.objs.size (fun i o => o.cls = .type "tuple_iterator" ∧ o.data = .fields #[.ref l, .int i 0]) _ s.toks (get_none_size _) (fun b o e => Heap.get?_push_of_some _ e) ⟨_, Heap.get?_push_size _ rfl, rfl, rfl⟩ ⟨?_, ?_, ?_, ?_⟩
  · rintro i hi s' Q E hF' ⟨o, ho, hc, hd⟩ hq
    obtain ⟨v, hv⟩ : ∃ v, vs[i]? = some v := ⟨vs[i], List.getElem?_eq_getElem hi⟩
    refine wpAny_pyNext_tuple_item ⟨o, ho, hc, hd⟩ (T _ hF') (by simpa using hv) fun h' hit hs => ?_
    obtain ⟨o', ho', hc', hd'⟩ := hit
    exact hq v h' s'.toks hv (fun b o hb e => (hs.2 b hb).trans e) ⟨o', ho', hc', hd'⟩
  · rintro s' Q E hF' ⟨o, ho, hc, hd⟩ hq
    exact wpAny_pyNext_tuple_end hh ⟨o, ho, hc, hd⟩ (T _ hF') (by simp) fun h' hs => hq h' s'.toks fun b o hb e => hs b o hb e
  · rintro s' Q E hF' ⟨o, ho, hc, hd⟩ hq
    exact wpAny_pyIter_tupleiter (t := l) (i := 0) ⟨o, ho, hc, hd⟩ hq
  · rintro i target v s' Q E ⟨o, ho, hc, hd⟩ hq
    exact goPlain target v ho hc (by decide) hq

theorem indexS {x : Value} {vs : List Value} {k : Nat} {t : Tok} {y : Value} {Q : Value → Shared → Prop} (S : St0 c F mu s) (hx : SList F x vs) (hk : vs[k]? = some y) (hfit : k ≤ 1000000) (h : Q y s) :
    wpAny (model prog w) A (getItem x (.int k t)) Q E s := by
  obtain ⟨l, ol, rfl, _⟩ := id hx
  exact wpAny_getItem_list (hx.isList S.inn) (by omega) (by omega) (by simpa using hk) h
theorem indexNeg {x : Value} {vs : List Value} {t : Tok} {y : Value} {Q : Value → Shared → Prop} (S : St0 c F mu s) (hx : SList F x vs) (hk : vs.getLast? = some y) (h : Q y s) :
    wpAny (model prog w) A (getItem x (.int (-1) t)) Q E s := by
  obtain ⟨l, ol, rfl, _⟩ := id hx
  have hne : vs ≠ [] := fun e => by rw [e] at hk; cases hk
  have hpos : 0 < vs.length := List.length_pos_iff.mpr hne
  refine wpAny_getItem_list_neg (hx.isList S.inn) (by omega) (by rw [List.size_toArray]; omega) (by decide) (x := y) ?_ h
  rw [List.getLast?_eq_getElem?] at hk
  have : ((-1 : Int) + vs.toArray.size).toNat = vs.length - 1 := by rw [List.size_toArray]; omega
  rw [this]; simpa using hk
theorem tupIndexS {x : Value} {vs : List Value} {k : Nat} {t : Tok} {y : Value} {Q : Value → Shared → Prop} (S : St0 c F mu s) (hx : STup F x vs) (hk : vs[k]? = some y) (hfit : k ≤ 1000000) (h : Q y s) :
    wpAny (model prog w) A (getItem x (.int k t)) Q E s := by
  obtain ⟨l, ol, rfl, _⟩ := id hx
  have hlt : k < vs.length := (List.getElem?_eq_some_iff.mp hk).1
  refine getItem_tuple (hx.isTup S.inn) (by omega) (by omega) (j := k) ?_ (by simpa using hk) h
  unfold seqIndex?
  simp; omega
theorem lenS {x : Value} {vs : List Value} {Q : Value → Shared → Prop} (S : St0 c F mu s) (hx : SList F x vs) (hz : vs.length ≤ 1000000) (h : ∀ s' t, St0 c F mu s' → Q (.int vs.length t) s') :
    wpAny (model prog w) A (call (.builtin "len") [x]) Q E s := by
  obtain ⟨l, ol, rfl, _⟩ := id hx
  refine call_len_list (hx.isList S.inn) (by rw [List.size_toArray]; omega) ?_
  rw [List.size_toArray]
  exact h _ _ (S.tok _)
theorem truthTupS {x : Value} {vs : List Value} {Q : Bool → Shared → Prop} (S : St0 c F mu s) (hx : STup F x vs) (hz : vs.length ≤ 1000000) (h : ∀ s', St0 c F mu s' → Q (!vs.isEmpty) s') :
    wpAny (model prog w) A (truthy x) Q E s := by
  obtain ⟨l, ol, rfl, _⟩ := id hx
  refine truthy_tuple (hx.isTup S.inn) (by rw [List.size_toArray]; omega) ?_
  have : vs.toArray.isEmpty = vs.isEmpty := by simp
  rw [this]
  exact h _ (S.tok _)
end
end Mine
end

section
/-! M15: calls as expressions. -/
set_option maxRecDepth 100000
set_option maxHeartbeats 4000000
namespace Mine
open PySem PySem.Calls PyProof.Rows PySem.W PySem.Builtin

theorem FnAt.binds {H : Heap} {mg : PySem.Str → Option Value} {name : PySem.Str} {st : Stmt} {f : Addr} {fd : FuncData} (X : FnAt H mg name st f fd) {s : Shared} {vals : List Value} {binds : List (PySem.Str × Value)}
    (h : ∀ n q b sc g cl d pm an co ct bu, bindArgs ⟨n, q, fArgs st, b, sc, g, cl, .none, .none, d, pm, an, co, ct, bu⟩ ⟨vals, []⟩ = pure binds) : BindsTo s fd ⟨vals, []⟩ binds := by
  have h1 : fd.params = fArgs st := by
    have := X.params; cases st <;> first | exact this | exact this.elim
  have h2 := X.dflt
  have h3 := X.kwd
  obtain ⟨n, q, p, b, sc, g, cl, df, kd, d, pm, an, co, ct, bu⟩ := fd
  dsimp only at h1 h2 h3
  subst h1 h2 h3
  exact .of_eq (h n q b sc g cl d pm an co ct bu)

/-- the names that the text's global dictionary does not bear -/
structure Gl (mg : PySem.Str → Option Value) : Prop where
  no : ∀ x : PySem.Str, x ∈ (["isinstance", "bytes", "str", "type", "issubclass", "len", "min", "max", "enumerate", "range", "tuple", "map", "sorted", "sum", "chr", "list"] : List PySem.Str) → mg x = none

section
variable {prog : Program} {w : World} {A : Around} {E : Value → Shared → Prop} {c : Cx} {F : Fz} {mu : Mu} {s : Shared} {env : Env} {sc : Scope} {mg mb : PySem.Str → Option Value} {Q : Value → Shared → Prop}

/-- name of a built-in thing -/
theorem ldB {x : PySem.Str} {pos : Pos} {v : Value} (S : St0 c F mu s) (B : Bs c.base mg mb) (G : Gl mg) (he : EnvOk env sc) (h : Q v s)
    (hb : bootBuiltins x = some v := by rfl) (hx : x ∈ (["isinstance", "bytes", "str", "type", "issubclass", "len", "min", "max", "enumerate", "range", "tuple", "map", "sorted", "sum", "chr", "list"] : List PySem.Str) := by decide) (hn : x ≠ "__name__" := by decide)
    (hk : sc.kind = .function := by rfl) (hl : sc.names.lookup x = some .globalImplicit := by rfl) (hd : (x == ("__debug__" : PySem.Str)) = false := by decide) :
    wpAny (model prog w) A (eval (.Name x pos) env) Q E s :=
  ldb' S B he (G.no x hx) h hb hn hk hl hd

theorem cB1 {fe e : Expr} {id : String} {pos : Pos} (hf : ∀ Q' : Value → Shared → Prop, Q' (.builtin id) s → wpAny (model prog w) A (eval fe env) Q' E s)
    (h : wpAny (model prog w) A (eval e env) (fun v s₁ => wpAny (model prog w) A (call (.builtin id) [v]) Q E s₁) E s)
    (he : eval (.Call fe [e] [] pos) env = (do callWith pos (← eval fe env) [] (backTo pos (starEach [e] env)) (backToKw pos (keywordEach [] env))) := by rfl)
    (hs : starEach [e] env = (false, eval e env) :: starEach [] env := by rfl) :
    wpAny (model prog w) A (eval (.Call fe [e] [] pos) env) Q E s :=
  Call_ (hf _ (PyProof.Rows.callWith_builtin1 (args_cons (wpAny_mono h (fun _ _ h => args_nil h) fun _ _ e => e) hs) hs)) he
theorem cB2 {fe e e2 : Expr} {id : String} {pos : Pos} (hf : ∀ Q' : Value → Shared → Prop, Q' (.builtin id) s → wpAny (model prog w) A (eval fe env) Q' E s)
    (h : wpAny (model prog w) A (eval e env) (fun v s₁ => wpAny (model prog w) A (eval e2 env) (fun v2 s₂ => wpAny (model prog w) A (call (.builtin id) [v, v2]) Q E s₂) E s₁) E s)
    (he : eval (.Call fe [e, e2] [] pos) env = (do callWith pos (← eval fe env) [] (backTo pos (starEach [e, e2] env)) (backToKw pos (keywordEach [] env))) := by rfl)
    (hs : starEach [e, e2] env = (false, eval e env) :: starEach [e2] env := by rfl) (hs2 : starEach [e2] env = (false, eval e2 env) :: starEach [] env := by rfl) (hp : (backTo pos (starEach [e2] env)).any (·.1) = false := by rfl) :
    wpAny (model prog w) A (eval (.Call fe [e, e2] [] pos) env) Q E s :=
  Call_ (hf _ (PyProof.Rows.callWith_builtin1 (args_cons (wpAny_mono h (fun _ _ h => args_cons (wpAny_mono h (fun _ _ h => args_nil h) fun _ _ e => e) hs2) fun _ _ e => e) hs) hs hp)) he
theorem cT1 {fe e : Expr} {id : String} {pos : Pos} (hf : ∀ Q' : Value → Shared → Prop, Q' (.type id) s → wpAny (model prog w) A (eval fe env) Q' E s)
    (h : wpAny (model prog w) A (eval e env) (fun v s₁ => wpAny (model prog w) A (call (.type id) [v]) Q E s₁) E s)
    (he : eval (.Call fe [e] [] pos) env = (do callWith pos (← eval fe env) [] (backTo pos (starEach [e] env)) (backToKw pos (keywordEach [] env))) := by rfl)
    (hs : starEach [e] env = (false, eval e env) :: starEach [] env := by rfl) :
    wpAny (model prog w) A (eval (.Call fe [e] [] pos) env) Q E s :=
  Call_ (hf _ (PyProof.Rows.callWith_type1 (args_cons (wpAny_mono h (fun _ _ h => args_nil h) fun _ _ e => e) hs) hs)) he
theorem cT2 {fe e e2 : Expr} {id : String} {pos : Pos} (hf : ∀ Q' : Value → Shared → Prop, Q' (.type id) s → wpAny (model prog w) A (eval fe env) Q' E s)
    (h : wpAny (model prog w) A (eval e env) (fun v s₁ => wpAny (model prog w) A (eval e2 env) (fun v2 s₂ => wpAny (model prog w) A (call (.type id) [v, v2]) Q E s₂) E s₁) E s)
    (he : eval (.Call fe [e, e2] [] pos) env = (do callWith pos (← eval fe env) [] (backTo pos (starEach [e, e2] env)) (backToKw pos (keywordEach [] env))) := by rfl)
    (hs : starEach [e, e2] env = (false, eval e env) :: starEach [e2] env := by rfl) (hs2 : starEach [e2] env = (false, eval e2 env) :: starEach [] env := by rfl) (hp : (backTo pos (starEach [e2] env)).any (·.1) = false := by rfl) :
    wpAny (model prog w) A (eval (.Call fe [e, e2] [] pos) env) Q E s :=
  Call_ (hf _ (PyProof.Rows.callWith_type1 (args_cons (wpAny_mono h (fun _ _ h => args_cons (wpAny_mono h (fun _ _ h => args_nil h) fun _ _ e => e) hs2) fun _ _ e => e) hs) hs hp)) he

/-- a call of a function of the text; the arguments leave a state with the old base -/
theorem cF {H : Heap} {name : PySem.Str} {st : Stmt} {f : Addr} {fd : FuncData} {np pos : Pos} {e0 : Expr} {rest : List Expr} (S : St0 c F mu s) (hH : c.base = H) (B : Bs c.base mg mb) (X : FnAt H mg name st f fd) (he : EnvOk env sc)
    (h : wpAny (model prog w) A (spliced (backTo pos (starEach (e0 :: rest) env))) (fun vs s₁ => (∀ o, s.heap.get? f = some o → s₁.heap.get? f = some o) ∧ wpAny (model prog w) A (call (.ref f) vs) Q E s₁) E s)
    (hev : eval (.Call (.Name name np) (e0 :: rest) [] pos) env = (do callWith pos (← eval (.Name name np) env) [] (backTo pos (starEach (e0 :: rest) env)) (backToKw pos (keywordEach [] env))) := by rfl)
    (hs0 : starEach (e0 :: rest) env = (false, eval e0 env) :: starEach rest env := by rfl)
    (hk : sc.kind = .function := by rfl) (hl : sc.names.lookup name = some .globalImplicit := by rfl) (hd : (name == ("__debug__" : PySem.Str)) = false := by decide) :
    wpAny (model prog w) A (eval (.Call (.Name name np) (e0 :: rest) [] pos) env) Q E s := by
  subst hH
  obtain ⟨o, ho, hod⟩ := X.obj
  refine Call_ (ldg' S B he X.at' ?_ hk hl hd) hev
  have ho' := S.keepsH _ _ ho
  rw [hs0] at h ⊢
  refine Calls.callWith_function (o := o) (fd := fd) (evalArgs_plain (wpAny_mono h (fun vs s₁ h₁ => ?_) fun _ _ e => e))
  exact ⟨⟨h₁.1 o ho', hod⟩, h₁.2⟩
theorem cF1 {H : Heap} {name : PySem.Str} {st : Stmt} {f : Addr} {fd : FuncData} {np pos : Pos} {e : Expr} (S : St0 c F mu s) (hH : c.base = H) (B : Bs c.base mg mb) (X : FnAt H mg name st f fd) (he : EnvOk env sc)
    (h : wpAny (model prog w) A (eval e env) (fun v s₁ => (∃ F' mu', St0 c F' mu' s₁) ∧ wpAny (model prog w) A (call (.ref f) [v]) Q E s₁) E s)
    (hev : eval (.Call (.Name name np) [e] [] pos) env = (do callWith pos (← eval (.Name name np) env) [] (backTo pos (starEach [e] env)) (backToKw pos (keywordEach [] env))) := by rfl)
    (hs : starEach [e] env = (false, eval e env) :: starEach [] env := by rfl)
    (hk : sc.kind = .function := by rfl) (hl : sc.names.lookup name = some .globalImplicit := by rfl) (hd : (name == ("__debug__" : PySem.Str)) = false := by decide) :
    wpAny (model prog w) A (eval (.Call (.Name name np) [e] [] pos) env) Q E s := by
  obtain ⟨o, ho, hod⟩ := id X.obj
  refine cF S hH B X he (args_cons (wpAny_mono h (fun v s₁ h₁ => args_nil ?_) fun _ _ e => e) hs) hev hs hk hl hd
  obtain ⟨⟨F', mu', S₁⟩, h₁⟩ := h₁
  refine ⟨fun o' ho' => ?_, h₁⟩
  rw [S.keepsH _ _ (hH ▸ ho)] at ho'
  cases ho'
  exact S₁.keepsH _ _ (hH ▸ ho)
theorem cF2 {H : Heap} {name : PySem.Str} {st : Stmt} {f : Addr} {fd : FuncData} {np pos : Pos} {e e2 : Expr} (S : St0 c F mu s) (hH : c.base = H) (B : Bs c.base mg mb) (X : FnAt H mg name st f fd) (he : EnvOk env sc)
    (h : wpAny (model prog w) A (eval e env) (fun v s₁ => wpAny (model prog w) A (eval e2 env) (fun v2 s₂ => (∃ F' mu', St0 c F' mu' s₂) ∧ wpAny (model prog w) A (call (.ref f) [v, v2]) Q E s₂) E s₁) E s)
    (hev : eval (.Call (.Name name np) [e, e2] [] pos) env = (do callWith pos (← eval (.Name name np) env) [] (backTo pos (starEach [e, e2] env)) (backToKw pos (keywordEach [] env))) := by rfl)
    (hs : starEach [e, e2] env = (false, eval e env) :: starEach [e2] env := by rfl) (hs2 : starEach [e2] env = (false, eval e2 env) :: starEach [] env := by rfl)
    (hk : sc.kind = .function := by rfl) (hl : sc.names.lookup name = some .globalImplicit := by rfl) (hd : (name == ("__debug__" : PySem.Str)) = false := by decide) :
    wpAny (model prog w) A (eval (.Call (.Name name np) [e, e2] [] pos) env) Q E s := by
  obtain ⟨o, ho, hod⟩ := id X.obj
  refine cF S hH B X he (args_cons (wpAny_mono h (fun v s₁ h₁ => args_cons (wpAny_mono h₁ (fun v s₂ h₂ => args_nil ?_) fun _ _ e => e) hs2) fun _ _ e => e) hs) hev hs hk hl hd
  obtain ⟨⟨F', mu', S₁⟩, h₁⟩ := h₂
  refine ⟨fun o' ho' => ?_, h₁⟩
  rw [S.keepsH _ _ (hH ▸ ho)] at ho'
  cases ho'
  exact S₁.keepsH _ _ (hH ▸ ho)

/-- literals -/
theorem constT {M : Model} {b : PySem.Str} {k : Nat} {pos : Pos} (S : St0 c F mu s) (h : ∀ s' t, St0 c F mu s' → Q (tx false b.cps.toList t) s') : wpAny M A (eval (.Constant (.str b) k pos) env) Q E s := by
  have : wpAny M A (eval (.Constant (.str b) k pos) env) (fun v s' => v = .str b s.toks ∧ s' = { s with toks := s.toks + 1 }) E s := fun _ _ _ => ⟨rfl, rfl⟩
  refine wpAny_mono this (fun v s' ⟨e1, e2⟩ => ?_) fun _ _ e => e
  subst e1 e2
  have e3 : Value.str b s.toks = tx false b.cps.toList s.toks := by unfold tx; rw [if_neg Bool.false_ne_true, us_of]
  rw [e3]; exact h _ _ (S.tok _)
theorem constB {M : Model} {x : List UInt8} {k : Nat} {pos : Pos} (S : St0 c F mu s) (h : ∀ s' t, St0 c F mu s' → Q (.bytes x.toArray t) s') : wpAny M A (eval (.Constant (.bytes x) k pos) env) Q E s :=
  Constant_bytes (h _ _ (S.tok _))
theorem constI {M : Model} {i : Int} {k : Nat} {pos : Pos} (S : St0 c F mu s) (h : ∀ s' t, St0 c F mu s' → Q (.int i t) s') : wpAny M A (eval (.Constant (.int i) k pos) env) Q E s := by
  have : wpAny M A (eval (.Constant (.int i) k pos) env) (fun v s' => v = .int i s.toks ∧ s' = { s with toks := s.toks + 1 }) E s := fun _ _ _ => ⟨rfl, rfl⟩
  refine wpAny_mono this (fun v s' ⟨e1, e2⟩ => ?_) fun _ _ e => e
  subst e1 e2
  exact h _ _ (S.tok _)
end
end Mine
end

section
/-! F1: _get_sep, fspath, _law_kind. -/
set_option maxRecDepth 100000
set_option maxHeartbeats 4000000
namespace Mine
open PySem PySem.Calls PyProof.Rows PySem.W PySem.Builtin

theorem lk0 (x : PySem.Str) (v : Value) : ([(x, v)] : List (PySem.Str × Value)).reverse.lookup x = some v := by simp [List.lookup]

section
variable {prog : Program} {w : World} {A : Around} {H : Heap} {mg mb : PySem.Str → Option Value} {F : Fz} {s : Shared} {f : Addr} {fd : FuncData}

theorem getSepC (B : Bs H mg mb) (G : Gl mg) (X : FnAt H mg "_get_sep" (nth 13) f fd) (p : Pre H F s) (hr : Rm A 2) (oct : Bool) (l : T) (t : Tok) :
    codeAny (model prog w) A (.call (.ref f) ⟨[tx oct l t], []⟩) (Res s F fun _ v => ∃ t', v = tx oct [47] t') s := by
  refine enter B X p hr (binds := [("path", tx oct l t)]) (X.binds fun _ _ _ _ _ _ _ _ _ _ _ _ => rfl) fun env s₁ he S hr' => ?_
  refine wpAny_execs_cons (wpAny_If (wpAny_isTrue_value (cB2 (fun _ h => ldB S B G he h) ?_)))
  refine ld' S he (lk0 _ _) (ldB S B G he ?_)
  refine isbytesT S fun s₂ S₂ => wpAny_truthy_bool ?_
  cases oct with
  | true =>
    rw [if_pos rfl]
    exact wpAny_execs_cons (wpAny_Return_some (constB S₂ fun s₃ t' S₃ => ⟨_, _, _, _, S₃, t', rfl⟩))
  | false =>
    rw [if_neg Bool.false_ne_true]
    exact wpAny_execs_cons (wpAny_Return_some (constT S₂ fun s₃ t' S₃ => ⟨_, _, _, _, S₃, t', rfl⟩))

theorem fspathC (B : Bs H mg mb) (G : Gl mg) (X : FnAt H mg "fspath" (nth 9) f fd) (p : Pre H F s) (hr : Rm A 2) (oct : Bool) (l : T) (t : Tok) :
    codeAny (model prog w) A (.call (.ref f) ⟨[tx oct l t], []⟩) (Res s F fun _ v => v = tx oct l t) s := by
  refine enter B X p hr (binds := [("path", tx oct l t)]) (X.binds fun _ _ _ _ _ _ _ _ _ _ _ _ => rfl) fun env s₁ he S hr' => ?_
  refine execsNext (wpAny_Assign_Name (cT1 (fun _ h => ldB S B G he h) (ld' S he (lk0 _ _) (typeT (st' S he fun s₂ S₂ => ⟨rfl, ?_⟩)))))
  refine wpAny_execs_cons (wpAny_If (wpAny_isTrue_value (cB2 (fun _ h => ldB S₂ B G he h) ?_)))
  refine ld' S₂ he rfl (Tuple_ (args_cons (ldB S₂ B G he (args_cons (ldB S₂ B G he (args_nil ?_))))))
  refine newTupleS S₂ (by decide) fun a F' s₃ hle S₃ hF' _ => ?_
  refine issubT (S₃.inn _ _ hF') (wpAny_truthy_bool ?_)
  rw [if_pos rfl]
  refine wpAny_execs_cons (wpAny_Return_some (ld' S₃ he ?_ ⟨_, _, _, _, S₃, rfl⟩))
  rfl
end
end Mine
end

section
/-! M16: into functions with cells, or with a starred parameter. -/
set_option maxRecDepth 100000
set_option maxHeartbeats 4000000
namespace Mine
open PySem PySem.Calls PyProof.Rows PySem.W PySem.Builtin

/-- the cells' part of the ledger -/
def cellMu (cs : List (PySem.Str × Addr)) (cm : PySem.Str → Option Value) : Mu := cs.map fun p => (p.2, cellIs (cm p.1))

theorem St0.addCells {c : Cx} {F : Fz} {s : Shared} {cm : PySem.Str → Option Value} {mu : Mu} : ∀ (cs : List (PySem.Str × Addr)), cs.Pairwise (fun x y => x.2 ≠ y.2) →
    (∀ p ∈ cs, F p.2 = none ∧ c.old p.2 = none ∧ (∀ q ∈ mu, q.1 ≠ p.2) ∧ s.heap.IsCell p.2 (cm p.1)) → St0 c F mu s → St0 c F (cellMu cs cm ++ mu) s
  | [], _, _, S => S
  | p :: r, hp, h, S => by
    obtain ⟨h1, h2⟩ := List.pairwise_cons.mp hp
    have ih := St0.addCells r h2 (fun q hq => h q (.tail _ hq)) S
    obtain ⟨a1, a2, a3, o, ho, hd⟩ := h p (List.mem_cons_self)
    refine St0.cons ih a1 a2 (fun q hq => ?_) ⟨o, ho, hd⟩
    rcases List.mem_append.mp hq with hq | hq
    · obtain ⟨z, hz, rfl⟩ := List.mem_map.mp hq
      exact fun e => h1 z hz e.symm
    · exact a3 q hq

theorem lookup_of_mem {α : Type} : ∀ {l : List (PySem.Str × α)} {n : PySem.Str} {x : α}, (l.map (·.1)).Nodup → (n, x) ∈ l → l.lookup n = some x
  | (k, v) :: r, n, x, hn, h => by
    obtain ⟨h1, h2⟩ := List.nodup_cons.mp hn
    rw [List.lookup_cons]
    rcases List.mem_cons.mp h with e | h
    · cases e; simp
    · have : n ≠ k := fun e => h1 (e ▸ List.mem_map.mpr ⟨_, h, rfl⟩)
      rw [beq_false_of_ne this]
      exact lookup_of_mem h2 h
theorem cellsFrom_names : ∀ (names : List (PySem.Str × NameKind)) (n : Nat) (acc : List (PySem.Str × Addr)), (cellsFrom n names acc).map (·.1) = ((names.filter (·.2 == .cell)).map (·.1)).reverse ++ acc.map (·.1)
  | [], _, _ => rfl
  | (name, kind) :: r, n, acc => by
    unfold cellsFrom
    by_cases hk : (kind == NameKind.cell) = true
    · rw [if_pos hk, cellsFrom_names r]
      rw [List.filter_cons_of_pos (by exact hk)]
      simp
    · rw [if_neg hk, cellsFrom_names r, List.filter_cons_of_neg (by exact hk)]

section
variable {prog : Program} {w : World} {A : Around} {F : Fz} {s : Shared}

theorem enterC {H : Heap} {mg mb : PySem.Str → Option Value} {name : PySem.Str} {st : Stmt} {f : Addr} {fd : FuncData} {vals : List Value} {P : Fz → Value → Prop} {k : Nat}
    (B : Bs H mg mb) (X : FnAt H mg name st f fd) (p : Pre H F s) (hr : Rm A (k + 1))
    (h : wpAny (model prog w) A.in1 (bindArgs fd ⟨vals, []⟩) (fun binds s₁ => ∃ F₁, F.Le F₁ ∧ St0 (cx H F s) F₁ [] s₁ ∧
      (∀ x ∈ binds, (fScope st).names.lookup x.1 = some .local ∨ ((fScope st).names.lookup x.1 = some .cell ∧ ((cellsFrom (s₁.heap.objs.size + 1) (fScope st).names []).lookup x.1).isSome = true)) ∧
      ∀ env s', EnvOk env (fScope st) → env.cells = cellsFrom (env.locals + 1) (fScope st).names [] →
        St0 (cx H F s) F₁ ((env.locals, nsIs (bindL (fun n => (fScope st).names.lookup n) binds fun _ => none)) :: cellMu env.cells (bindC (fun n => (fScope st).names.lookup n) binds fun _ => none)) s' → Rm (A.deeper env) k →
        wpAny (model prog w) (A.deeper env) (execs (fBody st) env) (fun fl s' => ∃ mu F', St0 (cx H F s) F' mu s' ∧ P F' (match fl with | .ret v => v | _ => .none)) NE s') NE s)
    (hnd : (((fScope st).names.filter (·.2 == .cell)).map (·.1)).Nodup := by decide)
    (hco : (fScope st).isCoroutine = false := by rfl) (hgen : (fScope st).isGenerator = false := by rfl) (hk : (fScope st).kind = .function := by rfl) :
    codeAny (model prog w) A (.call (.ref f) ⟨vals, []⟩) (Res s F P) s := by
  obtain ⟨o, ho, hd⟩ := X.obj
  have hsc : fd.scope = fScope st := by
    have := X.scope; cases st <;> first | exact this | exact this.elim
  have hbd : fd.body = .stmts (fBody st) := by
    have := X.body; cases st <;> first | exact this | exact this.elim
  have K : ∀ b o, H.get? b = some o → s.heap.get? b = some o := fun b o e => p.inn b o (p.base b o e)
  refine codeAny_call_function (fd := fd) (body := fBody st) hr.room (K _ _ ho) hd (by rw [hsc]; exact hco) (by rw [hsc]; exact hgen) hbd (X.code.keeps K) (wpAny_mono h (fun binds s₁ h₁ => ?_) fun _ _ e => e.elim)
  obtain ⟨F₁, hle, S₁, hkind, h₁⟩ := h₁
  rw [X.closure]
  refine wpAny_newFunctionEnv_cells (by rw [hsc]; exact hk) (by rw [hsc]; exact hkind) fun env henv s' x => ⟨B.lim.keeps fun b o e => x.toInCall.keep b o (S₁.keepsH b o e), codeAny_func ?_⟩
  have he : EnvOk env (fScope st) := by subst henv; exact ⟨hsc, X.globals, X.builtins⟩
  have hcells : env.cells = cellsFrom (env.locals + 1) (fScope st).names [] := by subst henv; rw [hsc] at *; rfl
  have hko : env.kindOf = fun n => (fScope st).names.lookup n := by funext n; unfold Env.kindOf; rw [he.scope]
  rw [hko] at x
  have T : St0 (cx H F s) F₁ ((env.locals, nsIs (bindL (fun n => (fScope st).names.lookup n) binds fun _ => none)) :: cellMu env.cells (bindC (fun n => (fScope st).names.lookup n) binds fun _ => none)) s' := by
    obtain ⟨h', tk, es⟩ := x.toInCall.same
    have K₁ : St0 (cx H F s) F₁ [] s' := S₁.keep x.toInCall.keep (by rw [es]) (by rw [es])
    have fresh : ∀ a, s₁.heap.objs.size ≤ a → F₁ a = none ∧ (cx H F s).old a = none := fun a ha => by
      have := S₁.fresh_ne (a := a) (by
        cases q : s₁.heap.get? a with
        | none => rfl
        | some o => exact absurd (Heap.lt_size q) (Nat.not_lt.mpr ha))
      exact ⟨this.1, this.2.1⟩
    have hn : (env.cells.map (·.1)).Nodup := by
      rw [hcells, cellsFrom_names]
      simp only [List.map_nil, List.append_nil]
      unfold List.Nodup at hnd ⊢
      rw [List.pairwise_reverse]
      exact hnd.imp fun h e => h e.symm
    have T₁ := St0.addCells (cm := bindC (fun n => (fScope st).names.lookup n) binds fun _ => none) env.cells x.apart (fun q hq => by
      have hab : env.locals < q.2 := x.above q.1 q.2 hq
      have hf := x.toInCall.fresh
      obtain ⟨f1, f2⟩ := fresh q.2 (Nat.le_of_lt (Nat.lt_of_le_of_lt hf hab))
      exact ⟨f1, f2, (fun _ hz => nomatch hz), x.cell q.1 q.2 (lookup_of_mem hn hq)⟩) K₁
    rw [List.append_nil] at T₁
    obtain ⟨o', es', ep, ho', h1, h2, h3⟩ := x.toInCall.ns
    obtain ⟨f1, f2⟩ := fresh env.locals x.toInCall.fresh
    refine St0.cons T₁ f1 f2 (fun q hq => ?_) ⟨o', ho', es', ep, h1, h2, h3⟩
    obtain ⟨z, hz, rfl⟩ := List.mem_map.mp hq
    have : env.locals < z.2 := x.above z.1 z.2 hz
    exact Nat.ne_of_gt this
  refine wpAny_mono (h₁ env s' he hcells T (hr.deeper _)) (fun fl s'' hq => ?_) fun _ _ x => x.elim
  obtain ⟨mu, F', S', hP⟩ := hq
  exact ⟨_, F', rfl, p.out S', hP⟩
/-- the parameters, when binding changes nothing -/
theorem FnAt.bindW {H : Heap} {mg : PySem.Str → Option Value} {name : PySem.Str} {st : Stmt} {f : Addr} {fd : FuncData} (X : FnAt H mg name st f fd) {vals : List Value} {binds : List (PySem.Str × Value)} {M : Model} {Q : List (PySem.Str × Value) → Shared → Prop} {E : Value → Shared → Prop}
    (hb : ∀ n q b sc g cl d pm an co ct bu, bindArgs ⟨n, q, fArgs st, b, sc, g, cl, .none, .none, d, pm, an, co, ct, bu⟩ ⟨vals, []⟩ = pure binds) (h : Q binds s) : wpAny M A (bindArgs fd ⟨vals, []⟩) Q E s := X.binds hb _ _ _ _ h
theorem FnAt.bindT {H : Heap} {mg : PySem.Str → Option Value} {name : PySem.Str} {st : Stmt} {f : Addr} {fd : FuncData} (X : FnAt H mg name st f fd) {vals : List Value} {M : Model} {Q : List (PySem.Str × Value) → Shared → Prop} {E : Value → Shared → Prop} {t : Sem (List (PySem.Str × Value))}
    (hb : ∀ n q b sc g cl d pm an co ct bu, bindArgs ⟨n, q, fArgs st, b, sc, g, cl, .none, .none, d, pm, an, co, ct, bu⟩ ⟨vals, []⟩ = t) (h : wpAny M A t Q E s) : wpAny M A (bindArgs fd ⟨vals, []⟩) Q E s := by
  have h1 : fd.params = fArgs st := by
    have := X.params; cases st <;> first | exact this | exact this.elim
  have h2 := X.dflt
  have h3 := X.kwd
  obtain ⟨n, q, p, b, sc, g, cl, df, kd, d, pm, an, co, ct, bu⟩ := fd
  dsimp only at h1 h2 h3
  subst h1 h2 h3
  rw [hb]; exact h
end
end Mine
end

section
/-! F2: _law_kind, dirname. -/
set_option maxRecDepth 100000
set_option maxHeartbeats 4000000
namespace Mine
open PySem PySem.Calls PyProof.Rows PySem.W PySem.Builtin

section
variable {prog : Program} {w : World} {A : Around} {E : Value → Shared → Prop} {c : Cx} {F : Fz} {mu : Mu} {s : Shared} {Q : Value → Shared → Prop} {a b : Int} {t u : Tok}
theorem addI (S : St0 c F mu s) (h : ∀ s' t, St0 c F mu s' → Q (.int (a + b) t) s') : wpAny (model prog w) A (binaryOp .Add (.int a t) (.int b u)) Q E s := P.add_int (h _ _ (S.tok _))
theorem iaddI (S : St0 c F mu s) (h : ∀ s' t, St0 c F mu s' → Q (.int (a + b) t) s') : wpAny (model prog w) A (inplaceOp .Add (.int a t) (.int b u)) Q E s := P.iadd_int (h _ _ (S.tok _))
theorem subI (S : St0 c F mu s) (h : ∀ s' t, St0 c F mu s' → Q (.int (a - b) t) s') : wpAny (model prog w) A (binaryOp .Sub (.int a t) (.int b u)) Q E s := P.sub_int (h _ _ (S.tok _))
end

def dirL (l : T) : T := if upTo l ≠ [] ∧ upTo l ≠ List.replicate (upTo l).length 47 then rstripL (upTo l) else upTo l
theorem Byt.upTo {l : T} (h : Byt l) : Byt (upTo l) := by
  rw [← upTo_prefix]; exact h.sub fun c hc => List.mem_of_mem_take hc
theorem Byt.rep (n : Nat) : Byt (List.replicate n 47) := fun c hc => by rw [List.eq_of_mem_replicate hc]; decide

section
variable {prog : Program} {w : World} {A : Around} {H : Heap} {mg mb : PySem.Str → Option Value} {F : Fz} {s : Shared} {f f1 f2 : Addr} {fd fd1 fd2 : FuncData}

theorem lawKindC (B : Bs H mg mb) (X : FnAt H mg "_law_kind" (nth 20) f fd) (p : Pre H F s) (hr : Rm A 2) (oct : Bool) (l : T) (t : Tok) (hb : Byt l) (hz : l.length ≤ 100000) :
    codeAny (model prog w) A (.call (.ref f) ⟨[tx false l t, .bool oct], []⟩) (Res s F fun _ v => ∃ t', v = tx oct l t') s := by
  refine enter B X p hr (binds := [("text", tx false l t), ("octets", .bool oct)]) (X.binds fun _ _ _ _ _ _ _ _ _ _ _ _ => rfl) fun env s₁ he S hr' => ?_
  refine wpAny_execs_cons (wpAny_Return_some (wpAny_IfExp (wpAny_isTrue_value (ld' S he rfl (wpAny_truthy_bool ?_)))))
  cases oct with
  | true =>
    rw [if_pos rfl]
    refine MethodCall_ (ld' S he rfl ?_)
    obtain ⟨g, h1, h2⟩ := PySem.F.plainAttrs_str.ga
    refine getMethod_value (T := "str") (typeIs_str _ _ _) (fun _ e => nomatch e) h1 h2 PySem.F.plainAttrs_str.noGetattr PySem.F.slot_str_encode.lookup PySem.F.type_str_encode ?_
    refine callWith_method1 (args_cons (constT S fun s₂ t' S₂ => args_nil ?_))
    exact encodeT S₂ hb hz fun s₃ t'' S₃ => ⟨_, _, _, _, S₃, t'', rfl⟩
  | false =>
    rw [if_neg Bool.false_ne_true]
    exact ld' S he rfl ⟨_, _, _, _, S, t, rfl⟩

theorem dirnameC (B : Bs H mg mb) (G : Gl mg) (X : FnAt H mg "dirname" (nth 15) f fd) (X1 : FnAt H mg "fspath" (nth 9) f1 fd1) (X2 : FnAt H mg "_get_sep" (nth 13) f2 fd2) (p : Pre H F s) (hr : Rm A 3) (oct : Bool) (l : T) (t : Tok) (hb : Byt l) (hz : l.length ≤ 10000) (hlt : (upTo l).length < l.length) :
    codeAny (model prog w) A (.call (.ref f) ⟨[tx oct l t], []⟩) (Res s F fun _ v => ∃ t', v = tx oct (dirL l) t') s := by
  refine enter B X p hr (binds := [("p", tx oct l t)]) (X.binds fun _ _ _ _ _ _ _ _ _ _ _ _ => rfl) fun env s₁ he S hr' => ?_
  refine execsNext (wpAny_Assign_Name (cF1 S rfl B X1 he (ld' S he rfl ⟨⟨_, _, S⟩, callS S (fspathC B G X1 S.pre hr' oct l t) fun v F₁ s₂ hle S₂ hv => ?_⟩)))
  subst hv
  refine st' S₂ he fun s₃ S₃ => ⟨rfl, ?_⟩
  refine execsNext (wpAny_Assign_Name (cF1 S₃ rfl B X2 he (ld' S₃ he rfl ⟨⟨_, _, S₃⟩, callS S₃ (getSepC B G X2 S₃.pre hr' oct l t) fun v F₂ s₄ hle2 S₄ hv => ?_⟩)))
  obtain ⟨t2, rfl⟩ := hv
  refine st' S₄ he fun s₅ S₅ => ⟨rfl, ?_⟩
  refine execsNext (wpAny_Assign_Name (wpAny_BinOp (mcall1 mf_rfind (ld' S₅ he rfl ⟨l, t, rfl, ld' S₅ he rfl (rfindT S₅ hb fun s₆ t6 S₆ => constI S₆ fun s₇ t7 S₇ => addI S₇ fun s₈ t8 S₈ => ?_)⟩))))
  refine st' S₈ he fun s₉ S₉ => ⟨rfl, ?_⟩
  have en : ((upTo l).length : Int) - 1 + 1 = ((upTo l).length : Nat) := by omega
  rw [en] at S₉
  refine execsNext (wpAny_Assign_Name (cutT (ld' S₉ he rfl ⟨l, t, rfl, by omega, ld' S₉ he rfl ⟨_, _, _, _, _, rfl, hlt, S₉, fun s10 t10 S10 => ?_⟩⟩)))
  rw [upTo_prefix]
  refine st' S10 he fun s11 S11 => ⟨rfl, ?_⟩
  have hul := upTo_le l
  refine execsNext (wpAny_If (isTrue_and (wpAny_isTrue_value (ld' S11 he rfl (truthT S11 (by omega) fun s12 S12 => ?_)))))
  by_cases h1 : upTo l = []
  · have hne : decide (upTo l ≠ []) = false := by simp [h1]
    rw [hne, if_neg Bool.false_ne_true, if_neg Bool.false_ne_true]
    refine wpAny_execs_nil ⟨rfl, ?_⟩
    refine wpAny_execs_cons (wpAny_Return_some (ld' S12 he rfl ⟨_, _, _, _, S12, t10, ?_⟩))
    simp [dirL, h1]
  · have hne : decide (upTo l ≠ []) = true := by simp [h1]
    rw [hne, if_pos rfl]
    refine isTrue_and (wpAny_isTrue_Compare1 (ld' S12 he rfl (wpAny_BinOp (ld' S12 he rfl (cB1 (fun _ h => ldB S12 B G he h) (ld' S12 he rfl (lenT S12 (by omega) fun s13 t13 S13 => mulT S13 (by omega) fun s14 t14 S14 => ?_)))))))
    refine neT hb.upTo (Byt.rep _) (wpAny_truthy_bool ?_)
    by_cases h2 : upTo l = List.replicate (upTo l).length 47
    · have hne2 : decide (upTo l ≠ List.replicate (upTo l).length 47) = false := by simp [← h2]
      rw [hne2, if_neg Bool.false_ne_true, if_neg Bool.false_ne_true]
      refine wpAny_execs_nil ⟨rfl, ?_⟩
      refine wpAny_execs_cons (wpAny_Return_some (ld' S14 he rfl ⟨_, _, _, _, S14, t10, ?_⟩))
      rw [dirL, if_neg (fun h => h.2 h2)]
    · have hne2 : decide (upTo l ≠ List.replicate (upTo l).length 47) = true := by simp [h2]
      rw [hne2, if_pos rfl]
      refine isTrue_and_nil ?_
      rw [if_pos rfl]
      refine execsNext (wpAny_Assign_Name (mcall1 mf_rstrip (ld' S14 he rfl ⟨_, _, rfl, ld' S14 he rfl (rstripT S14 hb.upTo (by omega) fun s15 t15 S15 => ?_)⟩)))
      refine st' S15 he fun s16 S16 => ⟨rfl, wpAny_execs_nil ⟨rfl, ?_⟩⟩
      refine wpAny_execs_cons (wpAny_Return_some (ld' S16 he rfl ⟨_, _, _, _, S16, t15, ?_⟩))
      rw [dirL, if_pos ⟨h1, h2⟩]
end
end Mine
end

section
/-! F3: join of two. -/
set_option maxRecDepth 100000
set_option maxHeartbeats 4000000
namespace Mine
open PySem PySem.Calls PyProof.Rows PySem.W PySem.Builtin

theorem tryS {prog : Program} {w : World} {A : Around} {s : Shared} {env : Env} {body orelse : List Stmt} {h₀ : ExceptHandler} {hs : List ExceptHandler} {pos : Pos} {Q : Flow → Shared → Prop} {E : Value → Shared → Prop}
    (h : wpAny (model prog w) A (execs body env) (fun f s₁ => match f with | .next => wpAny (model prog w) A (execs orelse env) Q E s₁ | f => Q f s₁) NE s) :
    wpAny (model prog w) A (exec (.Try body (h₀ :: hs) orelse [] pos) env) Q E s :=
  wpAny_Try_except (wpAny_mono h (fun _ _ e => e) fun _ _ e => e.elim)

def joinP (a b : T) : T := if startsL b = true ∨ a = [] then b else if endsL a = true then a ++ b else (a ++ [47]) ++ b

section
variable {prog : Program} {w : World} {A : Around} {H : Heap} {mg mb : PySem.Str → Option Value} {F : Fz} {s : Shared} {f f1 f2 : Addr} {fd fd1 fd2 : FuncData}

theorem joinC (B : Bs H mg mb) (G : Gl mg) (X : FnAt H mg "join" (nth 14) f fd) (X1 : FnAt H mg "fspath" (nth 9) f1 fd1) (X2 : FnAt H mg "_get_sep" (nth 13) f2 fd2) (p : Pre H F s) (hr : Rm A 3) (oct : Bool) (a b : T) (t u : Tok)
    (ha : Byt a) (hza : a.length ≤ 10000) (hb : Byt b) (hzb : b.length ≤ 10000) :
    codeAny (model prog w) A (.call (.ref f) ⟨[tx oct a t, tx oct b u], []⟩) (Res s F fun _ v => ∃ t', v = tx oct (joinP a b) t') s := by
  refine enterC B X p hr (X.bindT (t := newTuple [tx oct b u] >>= fun x => pure [("a", tx oct a t), ("p", x)]) (fun _ _ _ _ _ _ _ _ _ _ _ _ => rfl) ?_)
  refine wpAny_bind (newTupleS p.start (Nat.le_of_ble_eq_true rfl) fun tp F₁ s₁ hle S₁ _ htp => wpAny_pure ?_)
  refine ⟨F₁, hle, S₁, ?_, fun env s₂ he hc S₂ hr' => ?_⟩
  · intro x hx
    simp only [List.mem_cons, List.not_mem_nil, or_false] at hx
    rcases hx with rfl | rfl
    · exact .inl rfl
    · exact .inl rfl
  have ec : env.cells = [] := by rw [hc]; rfl
  rw [ec] at S₂
  replace S₂ : St (cx H F s) F₁ env.locals _ [] s₂ := S₂
  refine execsNext (wpAny_Assign_Name (cF1 S₂ rfl B X1 he (ld' S₂ he rfl ⟨⟨_, _, S₂⟩, callS S₂ (fspathC B G X1 S₂.pre hr' oct a t) fun v F₂ s₃ hle2 S₃ hv => ?_⟩)))
  subst hv
  refine st' S₃ he fun s₄ S₄ => ⟨rfl, ?_⟩
  refine execsNext (wpAny_Assign_Name (cF1 S₄ rfl B X2 he (ld' S₄ he rfl ⟨⟨_, _, S₄⟩, callS S₄ (getSepC B G X2 S₄.pre hr' oct a t) fun v F₃ s₅ hle3 S₅ hv => ?_⟩)))
  obtain ⟨t2, rfl⟩ := hv
  refine st' S₅ he fun s₆ S₆ => ⟨rfl, ?_⟩
  refine execsNext (wpAny_Assign_Name (ld' S₆ he rfl (st' S₆ he fun s₇ S₇ => ⟨rfl, ?_⟩)))
  have htp' := (htp.le hle2).le hle3
  refine execsNext (tryS (wpAny_execs_cons (forS (fun i F' m mu => mu = [] ∧ m "sep" = some (tx oct [47] t2) ∧ ∃ t', m "path" = some (tx oct (if i = 0 then a else joinP a b) t')) (ld' S₇ he rfl
    ⟨_, _, _, _, _, _, S₇, itTup hr'.hd htp', ⟨rfl, rfl, t, rfl⟩, ?_, ?_⟩))))
  · intro i v I K m F' mu' s' hi hv hle' hInv S'
    obtain ⟨rfl, hsep, t', hpath⟩ := hInv
    have hi0 : i = 0 := by
      have : i < 1 := hi
      omega
    subst hi0
    rw [if_pos rfl] at hpath
    have hv' : v = tx oct b u := by simpa using hv.symm
    subst hv'
    refine wpAny_assign_Name (st' S' he fun s₈ S₈ => ?_)
    refine execsNext (wpAny_Assign_Name (cF1 S₈ rfl B X1 he (ld' S₈ he rfl ⟨⟨_, _, S₈⟩, callS S₈ (fspathC B G X1 S₈.pre hr' oct b u) fun v F₄ s₉ hle4 S₉ hv => ?_⟩)))
    subst hv
    refine st' S₉ he fun s10 S10 => ⟨rfl, ?_⟩
    have hsep' : upd (upd m "b" (tx oct b u)) "b" (tx oct b u) "sep" = some (tx oct [47] t2) := hsep
    have hpath' : upd (upd m "b" (tx oct b u)) "b" (tx oct b u) "path" = some (tx oct a t') := hpath
    have fin : ∀ {s' : Shared} {m' : PySem.Str → Option Value} {r : T} {t'' : Tok}, St (cx H F s) F₄ env.locals m' [(I, K)] s' → m' "path" = some (tx oct r t'') → m' "sep" = some (tx oct [47] t2) → r = joinP a b →
        ∃ m' F'' mu'', F'.Le F'' ∧ St (cx H F s) F'' env.locals m' ((I, K) :: mu'') s' ∧ mu'' = [] ∧ m' "sep" = some (tx oct [47] t2) ∧ ∃ t', m' "path" = some (tx oct (if 0 + 1 = 0 then a else joinP a b) t') := by
      intro s' m' r t'' S' h1 h2 hr
      subst hr
      exact ⟨m', F₄, [], hle4, S', rfl, h2, t'', h1⟩
    refine wpAny_execs_cons (wpAny_If (isTrue_or (wpAny_isTrue_value (mcall1 mf_starts (ld' S10 he rfl ⟨b, u, rfl, ld' S10 he hsep' (startsT hb (wpAny_truthy_bool ?_))⟩)))))
    by_cases h1 : startsL b = true
    · rw [if_pos h1, if_pos rfl]
      refine wpAny_execs_cons (wpAny_Assign_Name (ld' S10 he rfl (st' S10 he fun s11 S11 => wpAny_execs_nil (wpAny_execs_nil ?_))))
      refine fin S11 rfl hsep' ?_
      rw [joinP, if_pos (.inl h1)]
    · rw [if_neg h1]
      refine isTrue_or (isTrue_not (wpAny_isTrue_value (ld' S10 he hpath' (truthT S10 (by omega) fun s11 S11 => ?_))))
      by_cases h2 : a = []
      · have e : (!decide (a ≠ [])) = true := by simp [h2]
        rw [e, if_pos rfl, if_pos rfl]
        refine wpAny_execs_cons (wpAny_Assign_Name (ld' S11 he rfl (st' S11 he fun s12 S12 => wpAny_execs_nil (wpAny_execs_nil ?_))))
        refine fin S12 rfl hsep' ?_
        rw [joinP, if_pos (.inr h2)]
      · have e : (!decide (a ≠ [])) = false := by simp [h2]
        rw [e, if_neg Bool.false_ne_true]
        refine isTrue_or_nil ?_
        rw [if_neg Bool.false_ne_true]
        have hn : ¬ (startsL b = true ∨ a = []) := fun h => h.elim h1 h2
        refine wpAny_execs_cons (wpAny_If (wpAny_isTrue_value (mcall1 mf_ends (ld' S11 he hpath' ⟨a, t', rfl, ld' S11 he hsep' (endsT ha (wpAny_truthy_bool ?_))⟩))))
        by_cases h3 : endsL a = true
        · rw [if_pos h3]
          refine wpAny_execs_cons (wpAny_AugAssign_Name (ldn' S11 he hpath' (ld' S11 he rfl (iaddT S11 (by omega) fun s12 t12 S12 => st' S12 he fun s13 S13 => wpAny_execs_nil (wpAny_execs_nil (wpAny_execs_nil ?_))))))
          refine fin S13 rfl hsep' ?_
          rw [joinP, if_neg hn, if_pos h3]
        · rw [if_neg h3]
          refine wpAny_execs_cons (wpAny_AugAssign_Name (ldn' S11 he hpath' (wpAny_BinOp (ld' S11 he hsep' (ld' S11 he rfl (addT S11 (by simp; omega) fun s12 t12 S12 => iaddT S12 (by simp; omega) fun s13 t13 S13 => st' S13 he fun s14 S14 => wpAny_execs_nil (wpAny_execs_nil (wpAny_execs_nil ?_))))))))
          refine fin S14 rfl hsep' ?_
          rw [joinP, if_neg hn, if_neg h3]; simp
  · intro F' m mu' s' hle' hInv S'
    obtain ⟨rfl, hsep, t', hpath⟩ := hInv
    refine wpAny_execs_nil (wpAny_execs_nil ⟨rfl, ?_⟩)
    exact wpAny_execs_cons (wpAny_Return_some (ld' S' he hpath ⟨_, _, S', t', rfl⟩))
end
end Mine
end

section
/-! P1: map(f, list) made into a tuple. -/
set_option maxRecDepth 100000
set_option maxHeartbeats 4000000
namespace Mine
open PySem PySem.Calls PyProof.Rows PySem.W PySem.Builtin
open AutoSeq1 (wpAny_loadPart')

theorem owner_map : Manifest.owners.lookup (String.ofList ['p', 'a', 'm'].reverse) = some Manifest.sig_map := by kernel_rfl
theorem slot_map_init : Slot "map" "__init__" "object.__init__" :=
  .of (owner := "object") (n := "__init__") (by rw [typeLookup_type, builtinLookup_eq_fast]; kernel_rfl) (by decide +kernel) (by decide +kernel) (by decide +kernel)
    (by first | exact .inl (by decide +kernel) | exact .inr (by decide +kernel)) (by rw [isSubtype_type]; kernel_rfl)
theorem slot_map_iter : Slot "map" "__iter__" "map.__iter__" :=
  .of (owner := "map") (n := "__iter__") (by rw [typeLookup_type, builtinLookup_eq_fast]; kernel_rfl) (by decide +kernel) (by decide +kernel) (by decide +kernel)
    (by first | exact .inl (by decide +kernel) | exact .inr (by decide +kernel)) (by rw [isSubtype_type]; kernel_rfl)
theorem slot_map_next : Slot "map" "__next__" "map.__next__" :=
  .of (owner := "map") (n := "__next__") (by rw [typeLookup_type, builtinLookup_eq_fast]; kernel_rfl) (by decide +kernel) (by decide +kernel) (by decide +kernel)
    (by first | exact .inl (by decide +kernel) | exact .inr (by decide +kernel)) (by rw [isSubtype_type]; kernel_rfl)
theorem entry_map_next : entryFor table "map.__next__" = some Builtin.«map.__next__» := entryFor_of_tree (by kernel_rfl)
theorem entry_map_new : entryFor table "map.__new__" = some Builtin.«map.__new__» := entryFor_of_tree (by kernel_rfl)
theorem entry_map_iter : entryFor table "map.__iter__" = some Builtin.«dict_keyiterator.__iter__» :=
  entryFor_alias (id' := "dict_keyiterator.__iter__") (by kernel_rfl) (by first | rfl | decide +kernel | (unfold String.splitOn; simp +decide [String.splitOnAux])) (by decide +kernel) (by kernel_rfl)
theorem args_map_next (a : Value) : argsOk "map.__next__" ⟨[a], []⟩ := by unfold argsOk; kernel_rfl
theorem args_map_iter (a : Value) : argsOk "map.__iter__" ⟨[a], []⟩ := by unfold argsOk; kernel_rfl
theorem mro_map : mroOf (.type "map") = pure [.type "map", .type "object"] := by rw [mroOf_type]; kernel_rfl
theorem lookup_map_new : typeLookup (.type "map") "__new__" = pure (some (.builtin "map.__new__")) := by rw [typeLookup_type, builtinLookup_eq_fast]; kernel_rfl
theorem called_map : TypeCalled "map" "map.__new__" "object.__init__" :=
  ⟨by decide +kernel, by decide +kernel, ⟨_, _, mro_map⟩, madeBy_type mro_map lookup_map_new (by decide +kernel), by decide +kernel, by rw [isSubtype_type]; kernel_rfl, slot_map_init⟩
theorem typeCall_map_2 (a b : Value) : checkTypeCall "map" ⟨[a, b], []⟩ = pure () := by kernel_rfl
theorem newCall_map_2 (a b : Value) : checkBuiltinCall "map.__new__" ⟨[.type "map", a, b], []⟩ = pure () := by kernel_rfl
theorem args_object_init_3 (a b c : Value) : argsOk "object.__init__" ⟨[a, b, c], []⟩ := by unfold argsOk; kernel_rfl
theorem map_no_len : typeLookup (.type "map") "__len__" = pure none := by rw [typeLookup_type, builtinLookup_eq_fast]; kernel_rfl
theorem map_no_hint : typeLookup (.type "map") "__length_hint__" = pure none := by rw [typeLookup_type, builtinLookup_eq_fast]; kernel_rfl
theorem sub_map : isSubtype (.type "map") (.type "map") = pure true := by rw [isSubtype_type]; kernel_rfl

theorem meets_map_new (f l : Addr) (items : Array Value) :
    Meets (Builtin.«map.__new__» ⟨[.type "map", .ref f, .ref l], []⟩) (fun _ R s => s.heap.IsList l items ∧
      R (.ok (.ret (.ref (s.heap.objs.size + 2))))
        { s with heap := ((s.heap.push { cls := .type "list_iterator", data := .fields #[.ref l, .int 0 0] }).push { cls := .type "tuple", data := .seq #[.ref s.heap.objs.size] }).push { cls := .type "map", data := .fields #[.ref (s.heap.objs.size + 1), .ref f] } }) :=
  .of_wp fun prog w A R s h => by
    obtain ⟨hp, g, d, tk, os⟩ := s; obtain ⟨hL, h⟩ := h
    have hsub := sub_map
    have e1 : (hp.push { cls := .type "list_iterator", data := .fields #[.ref l, .int 0 0] }).objs.size = hp.objs.size + 1 := Heap.size_push _ _
    have e2 : ((hp.push { cls := .type "list_iterator", data := .fields #[.ref l, .int 0 0] }).push { cls := .type "tuple", data := .seq #[.ref hp.objs.size] }).objs.size = hp.objs.size + 2 := by rw [Heap.size_push, Heap.size_push]
    wp_walk using wpAny_pyIter_list hL
    rw [e1]
    exact ⟨.ref (hp.objs.size + 2), congrArg (fun n => PySem.Fin.done (Flow.ret (.ref n))) e2, h⟩

section
variable {prog : Program} {w : World} {A : Around} {E : Value → Shared → Prop} {c : Cx} {F : Fz} {mu : Mu} {s : Shared}

/-- a list's iterator -/
def litK (l : Addr) (i : Nat) (o : Obj) : Prop := o.cls = .type "list_iterator" ∧ o.data = .fields #[.ref l, .int i 0]
/-- a map over a list: it stands still, its list's iterator moves -/
structure MapAt (F : Fz) (m f it l : Addr) (vs : List Value) : Prop where
  obj : ∃ tp, F m = some { cls := .type "map", data := .fields #[.ref tp, .ref f] } ∧ F tp = some { cls := .type "tuple", data := .seq #[.ref it] }
  list : SList F (.ref l) vs
theorem MapAt.le {F G : Fz} {m f it l : Addr} {vs : List Value} (x : MapAt F m f it l vs) (h : F.Le G) : MapAt G m f it l vs :=
  ⟨let ⟨tp, a, b⟩ := x.obj; ⟨tp, h _ _ a, h _ _ b⟩, x.list.le h⟩

theorem mapNew {f l : Addr} {vs : List Value} {Q : Value → Shared → Prop} (S : St0 c F mu s) (hl : SList F (.ref l) vs)
    (h : ∀ m it F' s', F.Le F' → St0 c F' ((it, litK l 0) :: mu) s' → MapAt F' m f it l vs → Q (.ref m) s') :
    wpAny (model prog w) A (call (.type "map") [.ref f, .ref l]) Q E s := by
  refine callType_new called_map (by decide) (typeCall_map_2 _ _) (newCall_map_2 _ _) (fun obj => args_object_init_3 obj _ _) entry_map_new (meets_map_new f l vs.toArray) ⟨hl.isList S.inn, ?_⟩
  have e1 : (s.heap.push { cls := .type "list_iterator", data := .fields #[.ref l, .int 0 0] }).objs.size = s.heap.objs.size + 1 := Heap.size_push _ _
  have S₁ := S.push (P := litK l 0) { cls := .type "list_iterator", data := .fields #[.ref l, .int 0 0] } rfl ⟨rfl, rfl⟩
  obtain ⟨le2, S₂⟩ := S₁.pushF { cls := .type "tuple", data := .seq #[.ref s.heap.objs.size] } rfl
  obtain ⟨le3, S₃⟩ := S₂.pushF { cls := .type "map", data := .fields #[.ref (s.heap.objs.size + 1), .ref f] } rfl
  dsimp only at S₂ S₃ le2 le3
  have e2 : ((s.heap.push { cls := .type "list_iterator", data := .fields #[.ref l, .int 0 0] }).push { cls := .type "tuple", data := .seq #[.ref s.heap.objs.size] }).objs.size = s.heap.objs.size + 2 := by rw [Heap.size_push, Heap.size_push]
  rw [e1] at S₂ S₃ le2 le3
  rw [e2] at S₃ le3
  refine ⟨⟨_, S₃.inn _ _ (Fz.put_self _ _ _), rfl⟩, h _ _ _ _ (le2.trans le3) S₃ ⟨⟨_, Fz.put_self _ _ _, le3 _ _ (Fz.put_self _ _ _)⟩, hl.le (le2.trans le3)⟩⟩

theorem nextOfS {it l : Addr} {i : Nat} {vs : List Value} {x : Value} {Q : Value → Shared → Prop} (S : St0 c F ((it, litK l i) :: mu) s) (hl : SList F (.ref l) vs) (hx : vs[i]? = some x)
    (h : ∀ s', St0 c F ((it, litK l (i + 1)) :: mu) s' → Q x s') : wpAny (model prog w) A (Builtin.SmallTypes.nextOf (.ref it)) Q E s := by
  obtain ⟨o, ho, hk⟩ := S.hd
  refine wpAny_nextOf_list_item ⟨o, ho, hk⟩ (hl.isList S.inn) (by simpa using hx) fun h' hit hs => ?_
  obtain ⟨o', ho', hk'⟩ := hit
  exact h _ (S.upd (s' := { s with heap := h' }) (fun b o hb e => (hs.2 b hb).trans e) ⟨o', ho', hk'⟩ rfl rfl)

/-- the next thing that a map gives -/
theorem mapNext {m f it l : Addr} {i : Nat} {vs : List Value} {x : Value} {P : Fz → Value → Prop} {Q : Option Value → Shared → Prop} (S : St0 c F ((it, litK l i) :: mu) s) (X : MapAt F m f it l vs) (hx : vs[i]? = some x)
    (hc : ∀ s', St0 c F ((it, litK l (i + 1)) :: mu) s' → codeAny (model prog w) A.in1 (.call (.ref f) ⟨[x], []⟩) (Res s' F P) s')
    (h : ∀ v F' s', F.Le F' → St0 c F' ((it, litK l (i + 1)) :: mu) s' → P F' v → Q (some v) s') : wpAny (model prog w) A (pyNext (.ref m)) Q E s := by
  obtain ⟨tp, hm, htp⟩ := X.obj
  have hmo := S.inn _ _ hm
  have hto := S.inn _ _ htp
  have hT : s.TypeIs (.ref m) "map" := ⟨_, hmo, rfl⟩
  unfold pyNext
  refine wpAny_bind (wpAny_attempt (wpAny_callSpecial?_slot (name := Str.ofString "__next__") hT slot_map_next
    (wpAny_call_entry slot_map_next hT entry_map_next ?_ (args_map_next _))))
  show wpAny _ _ (field (.ref m) 0 >>= _) _ _ s
  refine wpAny_bind (wpAny_field hmo rfl (x := .ref tp) rfl ?_)
  show wpAny _ _ (seqItems? (.ref tp) >>= _) _ _ s
  refine wpAny_bind (wpAny_seqItems hto rfl ?_)
  dsimp only
  refine wpAny_bind ?_
  refine wpAny_arrayLoop ?_
  simp only [List.forIn_cons, List.forIn_nil]
  refine wpAny_bind (wpAny_bind (wpAny_holding (nextOfS S X.list hx fun s₁ S₁ => ?_)))
  refine wpAny_pure (wpAny_pure ?_)
  show wpAny _ _ (field (.ref m) 1 >>= _) _ _ s₁
  refine wpAny_bind (wpAny_field (S₁.inn _ _ hm) rfl (x := .ref f) rfl ?_)
  refine wpAny_bind ?_
  refine wpAny_holding (callS S₁ (hc s₁ S₁) fun v F' s₂ hle S₂ hP => ?_)
  refine wpAny_bind (wpAny_letGo ?_)
  exact wpAny_pure ⟨v, rfl, wpAny_pure (h v F' s₂ hle S₂ hP)⟩
end
end Mine
end

section
/-! P2: tuple(map(f, list)). -/
set_option maxRecDepth 100000
set_option maxHeartbeats 4000000
namespace Mine
open PySem PySem.Calls PyProof.Rows PySem.W PySem.Builtin
open AutoSeq1 (wpAny_loadPart')

section
variable {prog : Program} {w : World} {A : Around} {E : Value → Shared → Prop} {c : Cx} {F : Fz} {mu : Mu} {s : Shared}

theorem mapEnd {m f it l : Addr} {vs : List Value} {Q : Option Value → Shared → Prop} (hh : A.handled = none) (S : St0 c F ((it, litK l vs.length) :: mu) s) (X : MapAt F m f it l vs)
    (h : ∀ s', St0 c F mu s' → Q none s') : wpAny (model prog w) A (pyNext (.ref m)) Q E s := by
  obtain ⟨tp, hm, htp⟩ := X.obj
  have hmo := S.inn _ _ hm
  have hto := S.inn _ _ htp
  have hT : s.TypeIs (.ref m) "map" := ⟨_, hmo, rfl⟩
  unfold pyNext
  refine wpAny_bind (wpAny_attempt (wpAny_callSpecial?_slot (name := Str.ofString "__next__") hT slot_map_next
    (wpAny_call_entry slot_map_next hT entry_map_next ?_ (args_map_next _))))
  show wpAny _ _ (field (.ref m) 0 >>= _) _ _ s
  refine wpAny_bind (wpAny_field hmo rfl (x := .ref tp) rfl ?_)
  show wpAny _ _ (seqItems? (.ref tp) >>= _) _ _ s
  refine wpAny_bind (wpAny_seqItems hto rfl ?_)
  dsimp only
  refine wpAny_bind ?_
  refine wpAny_arrayLoop ?_
  simp only [List.forIn_cons, List.forIn_nil]
  obtain ⟨o, ho, hk⟩ := S.hd
  refine wpAny_bind (wpAny_bind (wpAny_holding (wpAny_nextOf_list_end hh ⟨o, ho, hk⟩ (X.list.isList S.inn) (by simp) fun h' x he' hx' => ?_)))
  obtain ⟨o', ho', hc'⟩ := hx'
  refine wpAny_bind (wpAny_isInstance (T := "StopIteration") (b := true) ⟨o', ho', hc'⟩ isSubtype_stop ?_)
  exact wpAny_pure (h _ (objGone (h' := h') (tk := s.toks) S fun b o hb e => he' b o hb e))

theorem mapLoop {m f it l D : Addr} {vs : List Value} {P : Nat → Fz → Value → Prop} {R : Result → Shared → Prop} {res : Value} (hh : A.handled = none) (hP : ∀ i F G v, F.Le G → P i F v → P i G v) (hz : vs.length ≤ 1000) :
    ∀ (k i : Nat) (F : Fz) (s : Shared) (ys : List Value), vs.length - i = k → i ≤ vs.length → MapAt F m f it l vs → St0 c F ((D, lst ys) :: (it, litK l i) :: mu) s → ys.length = i → (∀ j y, ys[j]? = some y → P j F y) →
    (∀ i x F' mu' s', vs[i]? = some x → F.Le F' → St0 c F' mu' s' → codeAny (model prog w) A.in1.in1 (.call (.ref f) ⟨[x], []⟩) (Res s' F' (P i)) s') →
    (∀ F' s' ys, F.Le F' → St0 c F' ((D, lst ys) :: mu) s' → ys.length = vs.length → (∀ j y, ys[j]? = some y → P j F' y) → R (.ok (.ret res)) s') →
    codeAny (model prog w) A (.builtin "list.extend.loop" ⟨[.ref D, .ref m, res], []⟩) R s := by
  intro k
  induction k with
  | zero =>
    intro i F s ys hk hi X S hy hys hc hR
    have hin : i = vs.length := by omega
    subst hin
    refine codeAny_builtin PySem.F.entry_extend_loop ?_
    rw [Around.under_plainId PySem.F.plain_extend_loop _]
    show wpAny _ A.in1 (pyNext (.ref m) >>= _) _ _ s
    refine wpAny_bind (mapEnd hh S.swap X fun s' S' => ?_)
    exact wpAny_pure (hR F s' ys (.refl _) S' hy hys)
  | succ k ih =>
    intro i F s ys hk hi X S hy hys hc hR
    have hlt : i < vs.length := by omega
    refine codeAny_builtin PySem.F.entry_extend_loop ?_
    rw [Around.under_plainId PySem.F.plain_extend_loop _]
    show wpAny _ A.in1 (pyNext (.ref m) >>= _) _ _ s
    have hx : vs[i]? = some vs[i] := List.getElem?_eq_getElem hlt
    refine wpAny_bind (mapNext S.swap X hx (fun s' S' => hc i _ F _ s' hx (.refl _) S') fun v F' s' hle S' hv => ?_)
    have S'' := S'.swap
    obtain ⟨o, ho, hlo⟩ := S''.hd
    obtain ⟨hcl, hdi, nn, hd⟩ := id hlo
    show wpAny _ A.in1 (updateSeq D (·.push v) >>= _) _ _ _
    refine wpAny_bind ?_
    refine wpAny_updateSeq ho hd (wpAny_pure ⟨plainId_quiet PySem.F.plain_extend_loop _, ih (i + 1) F' _ (ys ++ [v]) (by omega) hlt (X.le hle) ?_ (by simp [hy]) ?_ (fun i x G mu' s' hx hle' => hc i x G mu' s' hx (hle.trans hle')) fun G s' ys' hle' => hR G s' ys' (hle.trans hle')⟩) (by rw [List.size_toArray]; show ys.length ≤ 2 ^ 24; omega) (by simp only [Array.size_push, List.size_toArray]; show ys.length + 1 ≤ 2 ^ 24 + 1; omega)
    · have := setS S'' (fun a => a.push v) ho hlo
      have e : (ys.toArray.push v).toList = ys ++ [v] := by simp
      rw [e] at this
      exact this
    · intro j y hj
      rw [List.getElem?_append] at hj
      split at hj
      · exact hP _ _ _ _ hle (hys j y hj)
      · rename_i hge
        have : j = i := by
          have h1 := (List.getElem?_eq_some_iff.mp hj).1
          simp at h1; omega
        subst this
        simp [hy] at hj
        subst hj
        exact hv

theorem collectMap {m f it l : Addr} {vs : List Value} {P : Nat → Fz → Value → Prop} {Q : List Value → Shared → Prop} (hh : A.handled = none) (hP : ∀ i F G v, F.Le G → P i F v → P i G v) (hz : vs.length ≤ 1000)
    (X : MapAt F m f it l vs) (S : St0 c F ((it, litK l 0) :: mu) s)
    (hc : ∀ i x F' mu' s', vs[i]? = some x → F.Le F' → St0 c F' mu' s' → codeAny (model prog w) A.in1.in1 (.call (.ref f) ⟨[x], []⟩) (Res s' F' (P i)) s')
    (h : ∀ F' s' ys, F.Le F' → St0 c F' mu s' → ys.length = vs.length → (∀ j y, ys[j]? = some y → P j F' y) → Q ys s') : wpAny (model prog w) A (collect (.ref m)) Q E s := by
  obtain ⟨tp, hm, htp⟩ := id X.obj
  unfold collect
  refine wpAny_bind (wpAny_runValue (codeAny_builtin PySem.F.entry_proto_collect ?_))
  rw [Around.under_plainId PySem.F.plain_proto_collect _]
  show wpAny _ A.in1 (newList [] >>= fun l => again (.builtin "list.__iadd__" ⟨[l, .ref m], []⟩)) _ _ s
  refine wpAny_bind (newListS S (by show (0 : Nat) ≤ 2 ^ 24; decide) fun D s₁ hD _ S₁ => ?_)
  refine wpAny_pure ⟨plainId_quiet PySem.F.plain_list_iadd _, codeAny_builtin PySem.F.entry_list_iadd ?_⟩
  rw [Around.under_plainId PySem.F.plain_list_iadd _]
  have hDm : D ≠ m := fun e => by
    have := S.inn _ _ hm
    rw [← e, hD] at this; cases this
  have hT : s₁.TypeIs (.ref m) "map" := ⟨_, S₁.inn _ _ hm, rfl⟩
  show wpAny _ A.in1 (Builtin.List.listExtendWith (.ref D) (.ref m) (.ref D)) _ _ _
  unfold Builtin.List.listExtendWith
  refine wpAny_bind (wpAny_typeOf hT ?_)
  have h1 : Builtin.List.listSameRef (.ref D) (.ref m) = false := by simp [Builtin.List.listSameRef, hDm]
  have h2 : (Value.type "map" == Value.type "list") = false := by decide
  have h3 : (Value.type "map" == Value.type "tuple") = false := by decide
  simp only [h1, h2, h3, Bool.or_false, Bool.false_eq_true, if_false]
  have hself : ∀ (Q' : Value → Shared → Prop) (E' : Value → Shared → Prop), Q' (.ref m) s₁ → wpAny (model prog w) A.in1 (pyIter (.ref m)) Q' E' s₁ := fun Q' E' hq => by
    refine wpAny_pyIter_slot hT slot_map_iter (wpAny_call_entry slot_map_iter hT entry_map_iter ?_ (args_map_iter _))
    show wpAny _ _ (ret (.ref m)) _ _ s₁
    exact wpAny_pure ⟨_, rfl, "map", _, hT, slot_map_next.lookup, hq⟩
  refine wpAny_bind (hself _ _ ?_)
  refine wpAny_bind (wpAny_holding ?_)
  unfold Builtin.List.listLengthHint
  refine wpAny_bind (wpAny_specialOf hT map_no_len ?_)
  show wpAny _ A.in1 (specialOf (Value.ref m) (Str.ofString "__length_hint__") >>= _) _ _ _
  refine wpAny_bind (wpAny_specialOf hT map_no_hint ?_)
  refine wpAny_pure ?_
  show wpAny _ A.in1 (rule "list.extend.makes-room" >>= fun _ => Builtin.List.listTouch (.ref D) >>= fun _ =>
    again (.builtin "list.extend.loop" ⟨[.ref D, .ref m, .ref D], []⟩)) _ _ _
  refine wpAny_bind (wpAny_rule ?_)
  obtain ⟨o, ho, hlo⟩ := S₁.hd
  obtain ⟨hcl, hdi, nn, hd⟩ := id hlo
  refine wpAny_bind ?_
  show wpAny _ A.in1 (updateSeq D (·.push .none) >>= fun _ => updateSeq D (·.pop)) _ _ _
  refine wpAny_bind (wpAny_updateSeq ho hd ?_)
  have S₂ := setS S₁ (fun a => a.push Value.none) ho hlo
  obtain ⟨o2, ho2, hlo2⟩ := S₂.hd
  obtain ⟨hcl2, hdi2, nn2, hd2⟩ := id hlo2
  refine wpAny_updateSeq ho2 hd2 ?_
  have S₃ := setS S₂ (fun a => a.pop) ho2 hlo2
  refine wpAny_pure ⟨plainId_quiet PySem.F.plain_extend_loop _, mapLoop (c := c) (mu := mu) hh hP hz _ 0 F _ [] rfl (Nat.zero_le _) X S₃ rfl (fun _ _ h => nomatch h) hc fun F' s' ys hle S' hl hys => ?_⟩
  obtain ⟨o4, ho4, hlo4⟩ := S'.hd
  obtain ⟨hcl4, hdi4, nn4, hd4⟩ := id hlo4
  show wpAny _ A (load D >>= _) _ _ s'
  refine wpAny_bind (wpAny_load ho4 ?_)
  rw [hd4]
  exact wpAny_pure (h F' s' ys hle S'.tail hl hys)

theorem tupleMap {m f it l : Addr} {vs : List Value} {P : Nat → Fz → Value → Prop} {Q : Value → Shared → Prop} (hh : A.handled = none) (hP : ∀ i F G v, F.Le G → P i F v → P i G v) (hz : vs.length ≤ 1000)
    (X : MapAt F m f it l vs) (S : St0 c F ((it, litK l 0) :: mu) s)
    (hc : ∀ i x F' mu' s', vs[i]? = some x → F.Le F' → St0 c F' mu' s' → codeAny (model prog w) A.in1.in1.in1.in1 (.call (.ref f) ⟨[x], []⟩) (Res s' F' (P i)) s')
    (h : ∀ t F' s' ys, F.Le F' → St0 c F' mu s' → STup F' (.ref t) ys → ys.length = vs.length → (∀ j y, ys[j]? = some y → P j F' y) → Q (.ref t) s') :
    wpAny (model prog w) A (call (.type "tuple") [.ref m]) Q E s := by
  obtain ⟨tp, hm, htp⟩ := id X.obj
  have hnew : codeAny (model prog w) A.in1 (.call (.builtin "tuple.__new__") ⟨[.type "tuple", .ref m], []⟩) (wants (fun v s' => s'.TypeIs v "tuple" ∧ Q v s') E) s := by
    refine codeAny_of_tree ?_
    show wpAny _ A.in1.in1 (do checkBuiltinCall "tuple.__new__" ⟨[.type "tuple", .ref m], []⟩; again (.builtin "tuple.__new__" ⟨[.type "tuple", .ref m], []⟩)) _ _ s
    refine wpAny_bind (wpAny_of_eq (PySem.F.newCall_tuple_1 _) (wpAny_pure ⟨plainId_quiet PySem.F.plain_tuple_new _, codeAny_builtin PySem.F.entry_tuple_new ?_⟩))
    rw [Around.under_plainId PySem.F.plain_tuple_new _]
    have hsub := sub_tuple_self
    have hinit := init_tuple_lookup
    have hmh := madeHere_tuple
    have hTI : s.TypeIs (.ref m) "map" := ⟨_, S.inn _ _ hm, rfl⟩
    have hcol : ∀ (Q' : List Value → Shared → Prop) (E' : Value → Shared → Prop), (∀ F' s' ys, F.Le F' → St0 c F' mu s' → ys.length = vs.length → (∀ j y, ys[j]? = some y → P j F' y) → Q' ys s') → wpAny (model prog w) A.in1.in1 (collect (.ref m)) Q' E' s := fun Q' E' hq => collectMap (A := A.in1.in1) hh hP hz X S hc hq
    wp_walk using wpAny_typeOf hTI, hcol
    intro F' s' ys hle S' hl hys
    show wpAny _ _ (Builtin.Tuple.tupleExact ys.toArray >>= fun v => ret v) _ _ _
    unfold Builtin.Tuple.tupleExact
    obtain ⟨le2, S₂⟩ := S'.pushF { cls := .type "tuple", data := .seq ys.toArray } rfl
    refine wpAny_bind (wpAny_newObj_type ?_ (by show ys.toArray.size ≤ 2 ^ 24; rw [List.size_toArray]; omega))
    refine wpAny_pure ?_
    exact ⟨⟨_, S₂.inn _ _ (Fz.put_self _ _ _), rfl⟩, h _ _ _ ys (hle.trans le2) S₂ ⟨_, _, rfl, Fz.put_self _ _ _, rfl, _, rfl⟩ hl fun j y hj => hP _ _ _ _ le2 (hys j y hj)⟩
  refine callType_codes (Q₁ := fun obj s₁ => s₁.TypeIs obj "tuple" ∧ Q obj s₁) PySem.F.called_tuple (PySem.F.typeCall_tuple_1 _) PySem.F.entry_object_init hnew fun obj s₁ h₁ => ?_
  exact ⟨h₁.1, PySem.F.args_object_init_2 obj _, object_init_meets PySem.F.called_tuple.init.lookup PySem.F.called_tuple.made (by decide) prog w A.in1 _ s₁ ⟨h₁.1, rfl, h₁.2⟩⟩
end
end Mine
end

section
/-! S1: a set of one truth value. -/
set_option maxRecDepth 100000
set_option maxHeartbeats 4000000
namespace Mine
open PySem PySem.Calls PyProof.Rows PySem.W PySem.Builtin

theorem entry_set_iter : entryFor table "set.__iter__" = some Builtin.«frozenset.__iter__» :=
  entryFor_alias (id' := "frozenset.__iter__") (by kernel_rfl) (by first | rfl | decide +kernel) (by decide +kernel) (by kernel_rfl)
theorem slot_setit_next : Slot "set_iterator" "__next__" "set_iterator.__next__" :=
  .of (owner := "set_iterator") (n := "__next__") (by rw [typeLookup_type, builtinLookup_eq_fast]; kernel_rfl) (by decide +kernel) (by decide +kernel) (by decide +kernel)
    (by first | exact .inl (by decide +kernel) | exact .inr (by decide +kernel)) (by rw [isSubtype_type]; kernel_rfl)
theorem entry_setit_next : entryFor table "set_iterator.__next__" = some Builtin.«set_iterator.__next__» := entryFor_of_tree (by kernel_rfl)
theorem args_setit_next (a : Value) : argsOk "set_iterator.__next__" ⟨[a], []⟩ := by unfold argsOk; kernel_rfl
theorem args_set_iter (a : Value) : argsOk "set.__iter__" ⟨[a], []⟩ := by unfold argsOk; kernel_rfl

def byText (w : World) : Bool := w.params.followText "set-order"
def hashB (b : Bool) : Int := if b then 1 else 0
/-- the table after one truth value -/
def tabB (w : World) (b : Bool) : SetTable := { mask := 7, place := #[if b then 1 else 0], dummies := #[], finger := 0, led := !byText w, moves := 0, plain := true }
def set0 (w : World) (o : Obj) : Prop := o = { cls := .type "set", data := .set #[] 0 (.fresh 0 0 (!byText w)) }
def setB (w : World) (b : Bool) (o : Obj) : Prop := o = { cls := .type "set", data := .set #[(hashB b, .bool b)] 1 (tabB w b) }

section
variable {prog : Program} {w : World} {A : Around} {E : Value → Shared → Prop} {c : Cx} {F : Fz} {mu : Mu} {s : Shared}

theorem newSetS {Q : Value → Shared → Prop} (S : St0 c F mu s) (h : ∀ a s', s.heap.get? a = none → St0 c F ((a, set0 w) :: mu) s' → Q (.ref a) s') : wpAny (model prog w) A (newSet (.type "set")) Q E s := by
  unfold newSet setsByText
  refine wpAny_bind (wpAny_bind (wpAny_askSetting (wpAny_pure ?_)))
  dsimp only
  simp only [newObj]
  exact wpAny_bind (wpAny_alloc (wpAny_pure (h _ _ (get_none_size _) (S.push _ rfl rfl))))

theorem hashBool {b : Bool} {Q : Int → Shared → Prop} (S : St0 c F mu s) (h : ∀ s', St0 c F mu s' → Q (hashB b) s') : wpAny (model prog w) A (pyHash (.bool b)) Q E s := by
  have hT : s.TypeIs (.bool b) "bool" := rfl
  unfold pyHash
  have hv : [Value.bool b].any Value.onHeap = false := rfl
  refine wpAny_bind ?_
  rw [cRoomFor, if_neg (by rw [hv]; exact Bool.false_ne_true)]; refine wpAny_pure ?_
  refine wpAny_bind (wpAny_specialOf hT PySem.F.slot_bool_hash.lookup ?_)
  show wpAny _ _ (if (some (Value.builtin "int.__hash__") == some Value.none) = true then _ else _) Q E s
  rw [if_neg (by rw [beq_builtin_none]; exact Bool.false_ne_true)]
  refine wpAny_bind (wpAny_specialOf hT PySem.F.slot_bool_hash.lookup ?_)
  show wpAny _ _ (callSpecialIfBoundUnlessNone? (.bool b) "__hash__" _ >>= _) Q E s
  cases b with
  | true =>
    refine wpAny_bind (wpAny_callSpecialIfBoundUnlessNone?_slot hT PySem.F.slot_bool_hash
      (wpAny_call_entry PySem.F.slot_bool_hash hT entry_int_hash (show wpAny _ _ (do ret (← mkInt 1)) _ _ s from wpAny_ret_mkInt ?_) (args_int_hash _)))
    exact wpAny_pure (h _ (S.tok _))
  | false =>
    refine wpAny_bind (wpAny_callSpecialIfBoundUnlessNone?_slot hT PySem.F.slot_bool_hash
      (wpAny_call_entry PySem.F.slot_bool_hash hT entry_int_hash (show wpAny _ _ (do ret (← mkInt 0)) _ _ s from wpAny_ret_mkInt ?_) (args_int_hash _)))
    exact wpAny_pure (h _ (S.tok _))

theorem setAdd0 {b : Bool} {D : Addr} {Q : Value → Shared → Prop} (S : St0 c F ((D, set0 w) :: mu) s) (h : ∀ s', St0 c F ((D, setB w b) :: mu) s' → Q .none s') :
    wpAny (model prog w) A (call (.builtin "set.add") [.ref D, .bool b]) Q E s := by
  obtain ⟨o, ho, hk⟩ := S.hd
  have hT : s.TypeIs (.ref D) "set" := ⟨o, ho, by rw [hk]⟩
  refine wpAny_call_entry PySem.F.slot_set_add hT PySem.F.entry_set_add ?_ (PySem.F.args_set_add_2 _ _)
  unfold Builtin.«set.add» Builtin.Frozenset.oneOther
  simp only [List.isEmpty_nil, bind_assoc]
  unfold Builtin.Frozenset.addrOf setAdd
  refine wpAny_bind (wpAny_pure ?_)
  try dsimp only
  refine wpAny_bind (wpAny_pure ?_)
  try dsimp only
  refine wpAny_bind ?_
  refine wpAny_holding ?_
  refine wpAny_bind (hashBool S fun s₁ S₁ => ?_)
  obtain ⟨o₁, ho₁, hk₁⟩ := S₁.hd
  unfold setAddHashed setAddHashedIn
  refine wpAny_holding (wpAny_bind (wpAny_setState_of ho₁ (by rw [hk₁]) (by rfl) ?_))
  dsimp only
  rw [if_pos (show byScan (.bool b) #[] = true by simp [byScan, Value.scannable, scanBound])]
  unfold setAddByScan
  refine wpAny_bind ?_
  refine wpAny_bind (wpAny_rule ?_)
  refine wpAny_bind (wpAny_of_eq (a := .absent) rfl ?_)
  dsimp only
  have hlay : layNew (.fresh 0 0 (!byText w)) #[] (hashB b) (.bool b) = (#[(hashB b, .bool b)], tabB w b, false, false) := by
    unfold tabB
    cases b <;> cases byText w <;> rfl
  rw [hlay]
  dsimp only
  refine wpAny_bind (wpAny_pure ?_)
  have hpl : (tabB w b).plain = true := rfl
  rw [hpl, if_pos rfl]
  refine wpAny_bind (wpAny_pure ?_)
  rw [if_pos rfl]
  refine wpAny_bind ?_
  unfold storeSet
  refine wpAny_bind (wpAny_load ho₁ ?_)
  rw [hk₁]
  dsimp only
  rw [if_neg (show ¬ ((#[(hashB b, Value.bool b)] : Array (Int × Value)).size > sizeLine) from (by show ¬ (1 > 2 ^ 24); decide))]
  refine wpAny_update ho₁ ?_
  have hfull : (tabB w b).tooFull = false := rfl
  rw [hfull]
  refine wpAny_pure (wpAny_pure (wpAny_pure ⟨.none, rfl, h _ ?_⟩))
  exact S₁.upd (fun b o hb e => (Heap.get?_update_other _ _ (Ne.symm hb)).trans e) ⟨_, Heap.get?_update_self _ ho₁ (by rw [hk₁]; rfl), by rw [hk₁]; rfl⟩ rfl rfl
end
end Mine
end

section
/-! S2: the set of one truth value, walked and unpacked. -/
set_option maxRecDepth 100000
set_option maxHeartbeats 4000000
namespace Mine
open PySem PySem.Calls PyProof.Rows PySem.W PySem.Builtin

def sitK (D : Addr) (next : Value) (i : Int) (src : Value) (o : Obj) : Prop := o = { cls := .type "set_iterator", data := .fields #[next, .int i 0, src, .int 1 0, .int 1 0] }

section
variable {prog : Program} {w : World} {A : Around} {E : Value → Shared → Prop} {c : Cx} {F : Fz} {mu : Mu} {s : Shared}

theorem setAdd1 {b : Bool} {D : Addr} {Q : Value → Shared → Prop} (S : St0 c F ((D, setB w b) :: mu) s) (h : ∀ s', St0 c F ((D, setB w b) :: mu) s' → Q .none s') :
    wpAny (model prog w) A (call (.builtin "set.add") [.ref D, .bool b]) Q E s := by
  obtain ⟨o, ho, hk⟩ := S.hd
  have hT : s.TypeIs (.ref D) "set" := ⟨o, ho, by rw [hk]⟩
  refine wpAny_call_entry PySem.F.slot_set_add hT PySem.F.entry_set_add ?_ (PySem.F.args_set_add_2 _ _)
  unfold Builtin.«set.add» Builtin.Frozenset.oneOther
  simp only [List.isEmpty_nil, bind_assoc]
  unfold Builtin.Frozenset.addrOf setAdd
  refine wpAny_bind (wpAny_pure ?_)
  try dsimp only
  refine wpAny_bind (wpAny_pure ?_)
  try dsimp only
  refine wpAny_bind ?_
  refine wpAny_holding ?_
  refine wpAny_bind (hashBool S fun s₁ S₁ => ?_)
  obtain ⟨o₁, ho₁, hk₁⟩ := S₁.hd
  have hd₁ : o₁.data = .set #[(hashB b, .bool b)] 1 (tabB w b) := by rw [hk₁]
  unfold setAddHashed setAddHashedIn
  refine wpAny_holding (wpAny_bind (wpAny_setState_of ho₁ hd₁ (by rfl) ?_))
  dsimp only
  rw [if_pos (show byScan (.bool b) #[(hashB b, Value.bool b)] = true by simp [byScan, Value.scannable, scanBound])]
  unfold setAddByScan
  refine wpAny_bind ?_
  refine wpAny_bind (wpAny_rule ?_)
  show wpAny _ _ (setScanFrom D (.bool b) (hashB b) true [(hashB b, Value.bool b)] 0 >>= _) _ _ _
  refine wpAny_bind ?_
  unfold setScanFrom
  rw [if_pos (by simp)]
  refine wpAny_bind (wpAny_setEpoch_of ho₁ hd₁ (by rfl) ?_)
  refine wpAny_bind (SeqAt.EqAt.bool_bool b b prog w _ _ ?_)
  rw [beq_self_eq_true]
  dsimp only [Bool.and_self]
  rw [if_pos rfl]
  exact wpAny_pure (wpAny_pure (wpAny_pure (wpAny_pure ⟨.none, rfl, h _ S₁⟩)))

theorem setIter {b : Bool} {D : Addr} {Q : Value → Shared → Prop} (S : St0 c F ((D, setB w b) :: mu) s)
    (h : ∀ I s', St0 c F ((I, sitK D (.int 0 0) 0 (.ref D)) :: (D, setB w b) :: mu) s' → Q (.ref I) s') : wpAny (model prog w) A (pyIter (.ref D)) Q E s := by
  obtain ⟨o, ho, hk⟩ := S.hd
  have hT : s.TypeIs (.ref D) "set" := ⟨o, ho, by rw [hk]⟩
  have hd : o.data = .set #[(hashB b, .bool b)] 1 (tabB w b) := by rw [hk]
  refine wpAny_pyIter_slot hT PySem.F.slot_set_iter (wpAny_call_entry PySem.F.slot_set_iter hT entry_set_iter ?_ (args_set_iter _))
  show wpAny _ _ (Builtin.Frozenset.sizeOf D >>= _) _ _ s
  unfold Builtin.Frozenset.sizeOf setEntries
  refine wpAny_bind (wpAny_bind (wpAny_bind (wpAny_setState_of ho hd (by rfl) (wpAny_pure (wpAny_pure ?_)))))
  unfold setDrawn setsByText
  refine wpAny_bind (wpAny_bind (wpAny_setState_of ho hd (by rfl) ?_))
  refine wpAny_bind (wpAny_bind (wpAny_askSetting (wpAny_pure ?_)))
  show wpAny _ _ (pure _) _ _ _
  refine wpAny_pure ?_
  dsimp only
  rw [if_neg (by
    cases (model prog w).w.params.followText "set-order"
    · exact Bool.false_ne_true
    · exact Bool.false_ne_true)]
  refine wpAny_bind (wpAny_pure ?_)
  refine wpAny_bind (wpAny_setEpoch_of ho hd (by rfl) ?_)
  refine wpAny_bind (wpAny_newObj_type ?_)
  have S₁ := S.push (P := sitK D (.int 0 0) 0 (.ref D)) { cls := .type "set_iterator", data := .fields #[.int 0 0, .int 0 0, .ref D, .int 1 0, .int 1 0] } rfl rfl
  exact wpAny_pure ⟨_, rfl, "set_iterator", _, ⟨_, Heap.get?_push_size _ rfl, rfl⟩, slot_setit_next.lookup, h _ _ S₁⟩

def nxB (w : World) (b : Bool) : Int := if byText w then 0 else if b then 2 else 1

theorem setField' {a : Addr} {cls : Value} {vs : Array Value} {i : Nat} {v : Value} {P : Obj → Prop} {Q : Unit → Shared → Prop} (S : St0 c F ((a, P) :: mu) s) (ho : s.heap.get? a = some { cls := cls, data := .fields vs }) (hi : i < vs.size)
    (h : ∀ s', s'.heap.get? a = some { cls := cls, data := .fields (vs.setIfInBounds i v) } → St0 c F ((a, fun o => o = { cls := cls, data := .fields (vs.setIfInBounds i v) }) :: mu) s' → Q () s') :
    wpAny (model prog w) A (setField (.ref a) i v) Q E s := by
  refine wpAny_setField_rec ho hi fun h' ho' hs => ?_
  exact h _ ho' (S.upd (s' := { s with heap := h' }) (fun b o hb e => (hs.2 b hb).trans e) ⟨_, ho', rfl⟩ rfl rfl)

theorem setNextW {b : Bool} {D : Addr} {o : Obj} {slot g : Nat} {r : Option (Value × Nat)} {Q : Option (Value × Nat) → Shared → Prop} (ho : s.heap.get? D = some o) (hd : o.data = .set #[(hashB b, .bool b)] 1 (tabB w b))
    (h1 : byText w = true → r = (#[(hashB b, Value.bool b)][g]?).map fun e => (e.2, slot))
    (h2 : byText w = false → r = match (#[(hashB b, Value.bool b)] : Array (Int × Value))[SetTable.below (tabB w b).place slot]?, (tabB w b).place[SetTable.below (tabB w b).place slot]? with
      | some (_, x), some j => some (x, j + 1)
      | _, _ => none)
    (h : Q r s) : wpAny (model prog w) A (setNext D slot g 1) Q E s := by
  unfold setNext setsByText
  refine wpAny_bind (wpAny_setState_of ho hd (by rfl) ?_)
  dsimp only
  refine wpAny_bind (wpAny_bind (wpAny_askSetting (wpAny_pure ?_)))
  show wpAny _ _ (if byText w = true then _ else _) _ _ s
  cases hbt : byText w with
  | true =>
    rw [if_pos rfl, if_neg (by simp)]
    refine wpAny_bind ?_
    unfold setWalk setsByText
    refine wpAny_bind (wpAny_setState_of ho hd (by rfl) ?_)
    dsimp only
    refine wpAny_bind (wpAny_bind (wpAny_askSetting (wpAny_pure ?_)))
    show wpAny _ _ (if byText w = true then _ else _) _ _ s
    rw [hbt, if_pos rfl]
    refine wpAny_bind (wpAny_askSetting (wpAny_pure (wpAny_pure ?_)))
    have e : ∀ f : Nat → Nat, pickOrder f #[(hashB b, Value.bool b)] = #[(hashB b, Value.bool b)] := fun f => by
      simp [pickOrder, pickOrder.go, Nat.mod_one]
    rw [e, ← h1 hbt]
    exact h
  | false =>
    rw [if_neg Bool.false_ne_true]
    show wpAny _ _ (if (false : Bool) = true then _ else _) _ _ s
    rw [if_neg Bool.false_ne_true]
    refine wpAny_bind ?_
    have hl : (tabB w b).led = true := by simp [tabB, hbt]
    show wpAny _ _ (if (!(tabB w b).led && _) = true then _ else _) _ _ s
    rw [hl, if_neg (show ¬ ((!true && _) = true) from Bool.false_ne_true)]
    refine wpAny_pure (wpAny_pure ?_)
    rw [h2 hbt] at h
    exact h

theorem setNextItem {b : Bool} {D I : Addr} {Q : Option Value → Shared → Prop} (S : St0 c F ((I, sitK D (.int 0 0) 0 (.ref D)) :: (D, setB w b) :: mu) s)
    (h : ∀ s', St0 c F ((I, sitK D (.int (nxB w b) 0) 1 (.ref D)) :: (D, setB w b) :: mu) s' → Q (some (.bool b)) s') : wpAny (model prog w) A (pyNext (.ref I)) Q E s := by
  obtain ⟨oI, hoI, hkI⟩ := S.hd
  obtain ⟨o, ho, hk⟩ := S.swap.hd
  have hd : o.data = .set #[(hashB b, .bool b)] 1 (tabB w b) := by rw [hk]
  unfold sitK at hkI
  subst hkI
  have hT : s.TypeIs (.ref I) "set_iterator" := ⟨_, hoI, rfl⟩
  unfold pyNext
  refine wpAny_bind (wpAny_attempt (wpAny_callSpecial?_slot (name := Str.ofString "__next__") hT slot_setit_next
    (wpAny_call_entry slot_setit_next hT entry_setit_next ?_ (args_setit_next _))))
  show wpAny _ _ (fieldsOf (.ref I) >>= _) _ _ s
  refine wpAny_bind ?_
  refine wpAny_bind (wpAny_load hoI ?_)
  refine wpAny_pure ?_
  show wpAny _ _ (setEntries D >>= _) _ _ s
  refine wpAny_bind (wpAny_setEntries_of ho hd (by rfl) ?_)
  refine wpAny_bind ?_
  refine setNextW (r := some (.bool b, (nxB w b).toNat)) ho hd (fun hb => ?_) (fun hb => ?_) ?_
  · rw [nxB, hb]; rfl
  · rw [nxB, hb]; cases b <;> rfl
  dsimp only
  have hnx : rawInt ((nxB w b).toNat : Int) = .int (nxB w b) 0 := by
    unfold nxB; cases b <;> cases byText w <;> rfl
  rw [hnx]
  refine wpAny_bind (setField' S hoI (by simp) fun s₁ ho₁ S₁ => ?_)
  refine wpAny_bind (setField' S₁ ho₁ (by simp) fun s₂ ho₂ S₂ => ?_)
  exact wpAny_pure ⟨_, rfl, wpAny_pure (h _ (S₂.weak fun o e => e))⟩

theorem setNextEnd {b : Bool} {D I : Addr} {Q : Option Value → Shared → Prop} (hh : A.handled = none) (S : St0 c F ((I, sitK D (.int (nxB w b) 0) 1 (.ref D)) :: (D, setB w b) :: mu) s)
    (h : ∀ s', St0 c F ((D, setB w b) :: mu) s' → Q none s') : wpAny (model prog w) A (pyNext (.ref I)) Q E s := by
  obtain ⟨oI, hoI, hkI⟩ := S.hd
  obtain ⟨o, ho, hk⟩ := S.swap.hd
  have hd : o.data = .set #[(hashB b, .bool b)] 1 (tabB w b) := by rw [hk]
  unfold sitK at hkI
  subst hkI
  have hT : s.TypeIs (.ref I) "set_iterator" := ⟨_, hoI, rfl⟩
  unfold pyNext
  refine wpAny_bind (wpAny_attempt (wpAny_callSpecial?_slot (name := Str.ofString "__next__") hT slot_setit_next
    (wpAny_call_entry slot_setit_next hT entry_setit_next ?_ (args_setit_next _))))
  show wpAny _ _ (fieldsOf (.ref I) >>= _) _ _ s
  refine wpAny_bind ?_
  refine wpAny_bind (wpAny_load hoI ?_)
  refine wpAny_pure ?_
  show wpAny _ _ (setEntries D >>= _) _ _ s
  refine wpAny_bind (wpAny_setEntries_of ho hd (by rfl) ?_)
  refine wpAny_bind ?_
  refine setNextW (r := none) ho hd (fun hb => rfl) (fun hb => ?_) ?_
  · rw [nxB, hb]; cases b <;> simp [SetTable.below, SetTable.below.go, tabB]
  dsimp only
  refine wpAny_bind (setField' S hoI (by simp) fun s₁ ho₁ S₁ => ?_)
  show wpAny _ _ (newExc (.type "StopIteration") [] >>= _) _ _ _
  refine wpAny_bind ?_
  simp only [newExc, newTuple]
  refine wpAny_bind (wpAny_newObj_type ?_ (by size_fits))
  refine wpAny_bind (m := firstArgMember _ _) (wpAny_of_eq (a := Value.none) (by first | rfl | (simp only [firstArgMember]; rfl)) ?_)
  refine wpAny_newObj_type ?_ (by size_fits)
  simp only [raiseNew]
  refine wpAny_bind (wpAny_handled ?_)
  first | rw [show A.in1.handled = none from hh] | rw [hh]
  refine wpAny_bind (wpAny_pure (wpAny_throw ?_))
  refine wpAny_bind (wpAny_isInstance (T := "StopIteration") (b := true) ⟨_, Heap.get?_push_size _ rfl, rfl⟩ isSubtype_stop ?_)
  refine wpAny_pure (h _ ?_)
  exact S₁.tail.keep (fun b o e => Heap.get?_push_of_some _ (Heap.get?_push_of_some _ e)) rfl rfl
end
end Mine
end

section
/-! S3: set comprehensions. -/
set_option maxRecDepth 100000
set_option maxHeartbeats 4000000
namespace Mine
open PySem PySem.Calls PyProof.Rows PySem.W PySem.Builtin

section
variable {prog : Program} {w : World} {A : Around}

/-- a comprehension's loop, whatever its body -/
theorem compLoopW {R : Result → Shared → Prop} {s : Shared} {elt : Expr} {gens : List Comprehension} {scope : Scope} {pos : Pos} {depth : Nat} {target : Expr} {p : Pos} {Body : Sem Unit} {it acc : Value} {env : Env}
    (hturn : compTurn (.SetComp elt gens scope pos) depth it acc env = (standAt p >>= fun _ => pyNext it >>= fun r => match r with
      | none => pure (.done .next)
      | some v => letOwnedTupleGo target it v >>= fun _ => assign target env v >>= fun _ => Body >>= fun _ => again (.compLoop (.SetComp elt gens scope pos) depth it acc env)))
    (I : Nat → Shared → Prop)
    (turn : ∀ n s, I n s → wpAny (model prog w) A (pyNext it) (fun r s₁ => match r with
      | none => R (.ok .next) s₁
      | some v => wpAny (model prog w) A (letOwnedTupleGo target it v) (fun _ s₁' => wpAny (model prog w) A (assign target env v) (fun _ s₂ =>
          wpAny (model prog w) A Body (fun _ s₃ => ∃ m, m < n ∧ I m s₃) NE s₂) NE s₁') NE s₁) NE s)
    (n : Nat) (h : I n s) : codeAny (model prog w) A (.compLoop (.SetComp elt gens scope pos) depth it acc env) R s := by
  refine codeAny_loop rfl I (fun n s hI => ?_) n h
  show wpAny _ A ((compTurn (.SetComp elt gens scope pos) depth it acc env).onRaise (fun x => do noteFrame x env; theTreesLotGoes x)) _ _ s
  refine wpAny_noted ?_
  rw [hturn]
  refine wpAny_bind (wpAny_standAt (wpAny_bind (wpAny_mono (turn n s hI) (fun r s₁ h₁ => ?_) fun _ _ h' => h'.elim)))
  cases r with
  | none => exact wpAny_pure h₁
  | some v =>
    refine wpAny_bind (wpAny_mono h₁ (fun _ s₁' h₁ => ?_) fun _ _ h' => h'.elim)
    refine wpAny_bind (wpAny_mono h₁ (fun _ s₂ h₂ => ?_) fun _ _ h' => h'.elim)
    exact wpAny_bind (wpAny_mono h₂ (fun _ s₃ h₃ => wpAny_pure ⟨rfl, h₃⟩) fun _ _ h' => h'.elim)

theorem compIter {R : Result → Shared → Prop} {s : Shared} {elt : Expr} {gens : List Comprehension} {scope : Scope} {pos : Pos} {depth : Nat} {target : Expr} {p : Pos} {Body : Sem Unit} {acc : Value} {env : Env} {I : Addr} {n : Nat} {K : Nat → Obj → Prop} {item : Nat → Value → Prop} {c₁ : Cx} {F₀ F₁ : Fz} {m₁ : PySem.Str → Option Value} {mu₁ : Mu}
    (hturn : compTurn (.SetComp elt gens scope pos) depth (.ref I) acc env = (standAt p >>= fun _ => pyNext (.ref I) >>= fun r => match r with
      | none => pure (.done .next)
      | some v => letOwnedTupleGo target (.ref I) v >>= fun _ => assign target env v >>= fun _ => Body >>= fun _ => again (.compLoop (.SetComp elt gens scope pos) depth (.ref I) acc env)))
    (W : Iter prog w A F₀ I n K item) (hF : F₀.Le F₁)
    (Inv : Nat → Fz → (PySem.Str → Option Value) → Mu → Prop) (S : St c₁ F₁ env.locals m₁ ((I, K 0) :: mu₁) s) (hI : Inv 0 F₁ m₁ mu₁)
    (turn : ∀ i v m F' mu' s', i < n → item i v → F₁.Le F' → Inv i F' m mu' → St c₁ F' env.locals m ((I, K (i + 1)) :: mu') s' →
      wpAny (model prog w) A (assign target env v) (fun _ s₂ => wpAny (model prog w) A Body (fun _ s₃ => ∃ m' F'' mu'', F'.Le F'' ∧ St c₁ F'' env.locals m' ((I, K (i + 1)) :: mu'') s₃ ∧ Inv (i + 1) F'' m' mu'') NE s₂) NE s')
    (fin : ∀ F' m mu' s', F₁.Le F' → Inv n F' m mu' → St c₁ F' env.locals m mu' s' → R (.ok .next) s') :
    codeAny (model prog w) A (.compLoop (.SetComp elt gens scope pos) depth (.ref I) acc env) R s := by
  refine compLoopW hturn (fun k s' => ∃ i m F' mu', k = n - i ∧ i ≤ n ∧ F₁.Le F' ∧ Inv i F' m mu' ∧ St c₁ F' env.locals m ((I, K i) :: mu') s') ?_ n ⟨0, m₁, F₁, mu₁, rfl, Nat.zero_le _, .refl _, hI, S⟩
  rintro k s' ⟨i, m, F', mu', rfl, hi, hle, hInv, T⟩
  by_cases hlt : i < n
  · refine W.next i hlt s' _ _ ((hF.trans hle).inn T.inn) T.swap.hd fun v h' tk hv hk hK => ?_
    have T' : St c₁ F' env.locals m ((I, K (i + 1)) :: mu') { s' with heap := h', toks := tk } := (T.swap.upd (s' := { s' with heap := h', toks := tk }) hk hK rfl rfl).swap
    refine W.go (i + 1) target v _ _ _ T'.swap.hd ?_
    refine wpAny_mono (turn i v m F' mu' _ hlt hv hle hInv T') (fun _ s₂ h₂ => wpAny_mono h₂ (fun _ s₃ h₃ => ?_) fun _ _ e => e) fun _ _ e => e
    obtain ⟨m', F'', mu'', a1, a2, a3⟩ := h₃
    exact ⟨n - (i + 1), by omega, i + 1, m', F'', mu'', rfl, hlt, hle.trans a1, a3, a2⟩
  · have hin : i = n := by omega
    subst hin
    refine W.fin s' _ _ ((hF.trans hle).inn T.inn) T.swap.hd fun h' tk hk => ?_
    exact fin F' m mu' _ hle hInv (objGone (h' := h') (tk := tk) T.swap hk)

/-- the comprehension's start, at any depth -/
theorem compStartW {R : Result → Shared → Prop} {s : Shared} {elt : Expr} {gens : List Comprehension} {scope : Scope} {pos : Pos} {depth : Nat} {I : Addr} {n : Nat} {K : Nat → Obj → Prop} {item : Nat → Value → Prop} {F : Fz} {acc : Value} {env : Env} (W : Iter prog w A F I n K item)
    (hin : F.In s.heap) (hK : ∃ o, s.heap.get? I = some o ∧ K 0 o) (has : ((clausesOf (.SetComp elt gens scope pos))[depth]?).elim false (·.is_async != 0) = false)
    (h : codeAny (model prog w) A (.compLoop (.SetComp elt gens scope pos) depth (.ref I) acc env) R s) : codeAny (model prog w) A (.compStart (.SetComp elt gens scope pos) depth (.ref I) acc env) R s := by
  refine codeAny_of_tree ?_
  show wpAny _ _ ((compStart (.SetComp elt gens scope pos) depth (.ref I) acc env).onRaise (fun x => do noteFrame x env; standAt theWindowsPlace)) _ _ s
  refine wpAny_notedAt ?_
  unfold compStart
  rw [if_neg (by rw [has]; exact Bool.false_ne_true)]
  refine wpAny_bind (wpAny_askSetting ?_)
  by_cases hx : (Setting.params ⟨(model prog w).prog, (model prog w).w.params⟩).followText "comprehension-iter-twice" = true
  · rw [if_pos hx]
    exact wpAny_pure ⟨rfl, h⟩
  · rw [if_neg hx]
    refine wpAny_bind (wpAny_rule ?_)
    have key : ∀ {t : Sem Unit}, (∀ (Q : Unit → Shared → Prop) (E : Value → Shared → Prop), Q () s → wpAny (model prog w) A t Q E s) →
        wpAny (model prog w) A (t >>= fun _ => pyIter (.ref I) >>= fun it' => again (.compLoop (.SetComp elt gens scope pos) depth it' acc env)) (fun fin s' => match fin with | .done f => R (.ok f) s' | .again c' => c'.quiet = true ∧ codeAny (model prog w) A c' R s') (notedBy (model prog w) A env fun x s' => R (.error x) s') s := fun ht =>
      wpAny_bind (ht _ _ (wpAny_bind (W.self s _ _ hin hK (wpAny_pure ⟨rfl, h⟩))))
    cases hg : (clausesOf (.SetComp elt gens scope pos))[depth]? with
    | none => exact key (t := pure ()) fun Q E hq => wpAny_pure hq
    | some g => exact key (t := standAt g.iter.pos) fun Q E hq => wpAny_standAt hq
end
end Mine
end

section
/-! S4: set comprehensions as expressions and stores. -/
set_option maxRecDepth 100000
set_option maxHeartbeats 4000000
namespace Mine
open PySem PySem.Calls PyProof.Rows PySem.W PySem.Builtin

section
variable {prog : Program} {w : World} {A : Around} {c : Cx} {F : Fz} {mu : Mu} {s : Shared}

theorem scompCore {elt target iter : Expr} {gs : List Comprehension} {scope sc : Scope} {pos p0 : Pos} {env : Env} {cl : List (PySem.Str × Addr)} {use : Option (Value → Sem Unit)} {Q : Value → Shared → Prop} {E : Value → Shared → Prop} {Body : Value → Env → Sem Unit}
    (he : EnvOk env sc) (hcl : closL scope.names env.cells [] = some cl) (hsc : compNames scope = true)
    (hturn : ∀ it acc env, compTurn (.SetComp elt (⟨target, iter, [], 0⟩ :: gs) scope pos) 0 it acc env = (standAt iter.pos >>= fun _ => pyNext it >>= fun r => match r with
      | none => pure (.done .next)
      | some v => letOwnedTupleGo target it v >>= fun _ => assign target env v >>= fun _ => Body acc env >>= fun _ => again (.compLoop (.SetComp elt (⟨target, iter, [], 0⟩ :: gs) scope pos) 0 it acc env)))
    (J : Nat → Fz → (Obj → Prop) → Prop)
    (hit : wpAny (model prog w) A (eval iter env) (fun x s₁ => ∃ c₁ F₁ mu₁ n item, St0 c₁ F₁ mu₁ s₁ ∧ ItOf prog w A F₁ x n item ∧ J 0 F₁ (set0 w) ∧
      (∀ cenv i v I K D m F' Acc s', EnvOk cenv (relab scope sc) → cenv.cells = cl → i < n → item i v → F₁.Le F' → J i F' Acc →
        St (cx c₁.base F₁ s₁) F' cenv.locals m [(I, K), (D, Acc)] s' →
        wpAny (model prog w) A (assign target cenv v) (fun _ s₂ => wpAny (model prog w) A (Body (.ref D) cenv) (fun _ s₃ => ∃ m' F'' Acc', F'.Le F'' ∧ St (cx c₁.base F₁ s₁) F'' cenv.locals m' [(I, K), (D, Acc')] s₃ ∧ J (i + 1) F'' Acc') NE s₂) NE s') ∧
      (∀ C D F' m Acc s', F₁.Le F' → St0 c₁ F' ((C, nsIs m) :: (D, Acc) :: mu₁) s' → J n F' Acc →
        match use with
        | none => ∀ s'', St0 c₁ F' ((D, Acc) :: mu₁) s'' → Q (.ref D) s''
        | some u => wpAny (model prog w) A (u (.ref D)) (fun _ s₂ => ∃ c₂ F₂ mu₂ m₂, St0 c₂ F₂ ((C, nsIs m₂) :: mu₂) s₂ ∧ ∀ s'', St0 c₂ F₂ mu₂ s'' → Q .none s'') E s')) E s)
    (hs : ∀ x, foldedSetIterable iter env x = pure x := by intro _; rfl) :
    wpAny (model prog w) A (comprehension (.SetComp elt (⟨target, iter, [], 0⟩ :: gs) scope pos) scope env p0 (newSet (.type "set")) false (eval iter env) use) Q E s := by
  simp only [compNames, Bool.and_eq_true] at hsc
  obtain ⟨⟨hcell, hkind⟩, hnames⟩ := hsc
  have hkind' : scope.kind = .function := by simpa using hkind
  refine wpAny_comprehension_free (g := ⟨target, iter, [], 0⟩) (gs := gs) rfl hs (closure_eq hcl) hkind' (fun x hx hl => ?_) (wpAny_mono hit (fun x s₁ hx => ?_) fun _ _ e => e)
  · have := List.all_eq_true.mp hnames x hx
    rw [hl] at this
    simpa using this
  obtain ⟨c₁, F₁, mu₁, n, item, S₁, hItOf, hJ0, turn, fin⟩ := hx
  refine hItOf s₁ _ _ S₁.inn fun I K h₂ tk hI hk₂ hKI W => ?_
  have T₂ : St0 (cx c₁.base F₁ s₁) F₁ [(I, K 0)] { s₁ with heap := h₂, toks := tk } := S₁.pre.start.new_at hI hk₂ hKI rfl rfl
  refine newSetS (w := w) T₂ fun D s₃ hD T₃ => ?_
  have hl : ∀ y ∈ ([] : List (PySem.Str × Value)), scope.names.lookup y.1 = some .local := fun _ hp => nomatch hp
  refine wpAny_newFunctionEnv (binds := []) (fun y hy => by simpa using List.all_eq_true.mp hcell y hy) hl (fun h₄ hns hsb => ?_) hkind'
  have hC : s₃.heap.get? s₃.heap.objs.size = none := get_none_size _
  have T₄ : St (cx c₁.base F₁ s₁) F₁ s₃.heap.objs.size (fun x => ([] : List (PySem.Str × Value)).reverse.lookup x) [(I, K 0), (D, set0 w)] { s₃ with heap := h₄, toks := s₃.toks + ([] : List (PySem.Str × Value)).length } := by
    obtain ⟨o', es, ep, ho', h1, h2, h3⟩ := hns
    exact T₃.swap.new_at hC (fun b o e => hsb.extBut b o (Nat.ne_of_lt (Heap.lt_size e)) (Heap.get?_push_of_some _ e)) ⟨o', ho', es, ep, h1, h2, h3⟩ rfl rfl
  have old₁ : ∀ {a : Addr}, ({ s₁ with heap := h₂, toks := tk } : Shared).heap.get? a = none → s₁.heap.get? a = none := fun {a} ha => by
    cases q : s₁.heap.get? a with
    | none => rfl
    | some o => have := hk₂ _ _ q; rw [this] at ha; cases ha
  have hCs₁ : s₁.heap.get? s₃.heap.objs.size = none := by
    cases q : s₁.heap.get? s₃.heap.objs.size with
    | none => rfl
    | some o => exact absurd (Heap.lt_size (T₃.old _ _ q)) (Nat.lt_irrefl _)
  have hDs₁ := old₁ hD
  generalize hcenv : ({ (newEnv scope s₃.heap.objs.size env.globals cl env.qual none .none (some env) env.builtins) with scope := relabel scope env } : Env) = cenv
  have hcE : EnvOk cenv (relab scope sc) := by subst hcenv; exact ⟨relabel_eq he, he.globals, he.builtins⟩
  have hcc : cenv.cells = cl := by subst hcenv; rfl
  have hcL : cenv.locals = s₃.heap.objs.size := by subst hcenv; rfl
  have T₅ : St (cx c₁.base F₁ s₁) F₁ cenv.locals (fun x => ([] : List (PySem.Str × Value)).reverse.lookup x) [(I, K 0), (D, set0 w)] { s₃ with heap := h₄, toks := s₃.toks + ([] : List (PySem.Str × Value)).length } := by rw [hcL]; exact T₄
  have := compStartW (prog := prog) (w := w) (A := A) (R := compPost (model prog w) A E use Q (.ref D) s₃.heap.objs.size) (elt := elt) (gens := ⟨target, iter, [], 0⟩ :: gs) (scope := scope) (pos := pos) (depth := 0) (acc := .ref D) (env := cenv) W T₅.inn T₅.swap.hd rfl
    (compIter (hturn _ _ _) W (.refl _) (fun i F' m mu' => ∃ Acc, mu' = [(D, Acc)] ∧ J i F' Acc) T₅ ⟨_, rfl, hJ0⟩ (fun i v m F' mu' s' hi hv hle hInv T => by
        obtain ⟨Acc, rfl, hJ⟩ := hInv
        refine wpAny_mono (turn cenv i v I (K (i + 1)) D m F' Acc s' hcE hcc hi hv hle hJ T) (fun _ s₂ h₂ => wpAny_mono h₂ (fun _ s₃ h₃ => ?_) fun _ _ e => e) fun _ _ e => e
        obtain ⟨m', F'', Acc', a1, a2, a3⟩ := h₃
        exact ⟨m', F'', _, a1, a2, Acc', rfl, a3⟩) fun F' m mu' s' hle hInv T' => by
      obtain ⟨Acc, rfl, hJ⟩ := hInv
      have O : Out s₁ F₁ s' F' := S₁.pre.out T'
      have Z := S₁.after O
      obtain ⟨oC, hoC, hnsC⟩ := T'.hd
      have frC := T'.fr _ (List.mem_cons_self)
      obtain ⟨oD, hoD, haD⟩ := T'.swap.hd
      have frD := T'.swap.fr _ (List.mem_cons_self)
      have fD := S₁.fresh_ne hDs₁
      have fC := S₁.fresh_ne hCs₁
      have Z' : St0 c₁ F' ((s₃.heap.objs.size, nsIs m) :: (D, Acc) :: mu₁) s' := by
        refine (Z.cons frD.1 fD.2.1 fD.2.2 ⟨oD, hoD, haD⟩).cons (by rw [← hcL]; exact frC.1) fC.2.1 (fun p hp => ?_) ⟨oC, by rw [← hcL]; exact hoC, hnsC⟩
        rcases List.mem_cons.mp hp with rfl | hp
        · have := T'.ne (D, Acc) (List.mem_cons_self)
          rw [hcL] at this
          exact this
        · exact fC.2.2 p hp
      have fin' := fin s₃.heap.objs.size D F' m Acc s' hle Z' hJ
      unfold compPost
      cases use with
      | none =>
        dsimp only at fin' ⊢
        refine ⟨m, St.ns Z', fun h'' hs'' => fin' _ ?_⟩
        exact objGone (h' := h'') (tk := s'.toks) Z' fun b o hb e => (hs''.2 b hb).trans e
      | some u =>
        dsimp only at fin' ⊢
        refine wpAny_mono fin' (fun _ s₂ h₂ => ?_) fun _ _ e => e
        obtain ⟨c₂, F₂, mu₂, m₂, Z₂, hQ⟩ := h₂
        refine ⟨m₂, St.ns Z₂, fun h'' hs'' => hQ _ ?_⟩
        exact objGone (h' := h'') (tk := s₂.toks) Z₂ fun b o hb e => (hs''.2 b hb).trans e)
  subst hcenv
  exact this
end
end Mine
end

section
/-! S5: a set comprehension with one for, as an expression. -/
set_option maxRecDepth 100000
set_option maxHeartbeats 4000000
namespace Mine
open PySem PySem.Calls PyProof.Rows PySem.W PySem.Builtin

theorem compTurn_set1 (elt target iter : Expr) (scope : Scope) (pos : Pos) (it acc : Value) (env : Env) :
    compTurn (.SetComp elt [⟨target, iter, [], 0⟩] scope pos) 0 it acc env = (standAt iter.pos >>= fun _ => pyNext it >>= fun r => match r with
      | none => pure (.done .next)
      | some v => letOwnedTupleGo target it v >>= fun _ => assign target env v >>= fun _ => (eval elt env >>= fun v => standAt elt.pos >>= fun _ => call (.builtin "set.add") [acc, v] >>= fun _ => pure ()) >>= fun _ =>
        again (.compLoop (.SetComp elt [⟨target, iter, [], 0⟩] scope pos) 0 it acc env)) := by rfl

section
variable {prog : Program} {w : World} {A : Around} {s : Shared} {env : Env} {sc : Scope}
theorem scomp1 {elt target iter : Expr} {scope : Scope} {pos : Pos} {cl : List (PySem.Str × Addr)} {Q : Value → Shared → Prop} {E : Value → Shared → Prop}
    (he : EnvOk env sc) (hcl : closL scope.names env.cells [] = some cl) (hsc : compNames scope = true)
    (J : Nat → Fz → (Obj → Prop) → Prop)
    (hit : wpAny (model prog w) A (eval iter env) (fun x s₁ => ∃ c₁ F₁ mu₁ n item, St0 c₁ F₁ mu₁ s₁ ∧ ItOf prog w A F₁ x n item ∧ J 0 F₁ (set0 w) ∧
      (∀ cenv i v I K D m F' Acc s', EnvOk cenv (relab scope sc) → cenv.cells = cl → i < n → item i v → F₁.Le F' → J i F' Acc →
        St (cx c₁.base F₁ s₁) F' cenv.locals m [(I, K), (D, Acc)] s' →
        wpAny (model prog w) A (assign target cenv v) (fun _ s₂ => wpAny (model prog w) A (eval elt cenv) (fun y s₃ => wpAny (model prog w) A (call (.builtin "set.add") [.ref D, y]) (fun _ s₄ =>
          ∃ m' F'' Acc', F'.Le F'' ∧ St (cx c₁.base F₁ s₁) F'' cenv.locals m' [(I, K), (D, Acc')] s₄ ∧ J (i + 1) F'' Acc') NE s₃) NE s₂) NE s') ∧
      (∀ D F' Acc s', F₁.Le F' → St0 c₁ F' ((D, Acc) :: mu₁) s' → J n F' Acc → Q (.ref D) s')) E s)
    (hs : ∀ x, foldedSetIterable iter env x = pure x := by intro _; rfl) :
    wpAny (model prog w) A (eval (.SetComp elt [⟨target, iter, [], 0⟩] scope pos) env) Q E s := by
  rw [arm_eval_SetComp]
  refine scompCore (use := none) he hcl hsc (fun it acc env => compTurn_set1 elt target iter scope pos it acc env) J (wpAny_mono hit (fun x s₁ h => ?_) fun _ _ e => e) hs
  obtain ⟨c₁, F₁, mu₁, n, item, h1, h2, h3, h4, h5⟩ := h
  refine ⟨c₁, F₁, mu₁, n, item, h1, h2, h3, fun cenv i v I K D m F' Acc s' a1 a2 a3 a4 a5 a6 a7 => ?_, fun C D F' m Acc s' a1 a2 a3 s'' a4 => h5 D F' Acc s'' a1 a4 a3⟩
  refine wpAny_mono (h4 cenv i v I K D m F' Acc s' a1 a2 a3 a4 a5 a6 a7) (fun _ s₂ h => ?_) fun _ _ e => e
  exact wpAny_bind (wpAny_mono h (fun y s₃ h => wpAny_bind (wpAny_standAt (wpAny_bind (wpAny_mono h (fun _ s₄ h => wpAny_pure h) fun _ _ e => e)))) fun _ _ e => e)
end
end Mine
end

section
/-! M17: subscripts of lists. -/
set_option maxRecDepth 100000
set_option maxHeartbeats 4000000
namespace Mine
open PySem PySem.Calls PyProof.Rows PySem.W PySem.Builtin

section
variable {prog : Program} {w : World} {A : Around} {E : Value → Shared → Prop} {c : Cx} {F : Fz} {mu : Mu} {s : Shared} {env : Env} {Q : Value → Shared → Prop}

theorem anyBase {value slice : Expr} {o i : Value} {E : Value → Shared → Prop}
    (h : wpAny (model prog w) A (subscriptTail (.Name "_" default) slice o i) Q E s) : wpAny (model prog w) A (subscriptTail value slice o i) Q E s :=
  kba_turn (value' := .Name "_" default) (fun _ => rfl) h
theorem subS {value slice : Expr} {pos : Pos}
    (h : wpAny (model prog w) A (eval value env) (fun o s₁ => wpAny (model prog w) A (eval slice env) (fun i s₂ => ∃ c F mu vs y, ∃ (k : Nat) (t : Tok), St0 c F mu s₂ ∧ SList F o vs ∧ i = .int k t ∧ k ≤ 1000000 ∧ vs[k]? = some y ∧ Q y s₂) E s₁) E s)
    (hs : ∀ o i, subscripted slice false o i = operate [o, i] (getItem o i) := by intro _ _; with_unfolding_all rfl) :
    wpAny (model prog w) A (eval (.Subscript value slice pos) env) Q E s := by
  refine Subscript_ (wpAny_mono h (fun o s₁ h₁ => wpAny_mono h₁ (fun i s₂ h₂ => ?_) fun _ _ e => e) fun _ _ e => e)
  obtain ⟨c, F, mu, vs, y, k, t, S, hl, rfl, hk, hy, hq⟩ := h₂
  obtain ⟨l, ol, rfl, _⟩ := id hl
  exact anyBase (subscriptTail_builtin (value := .Name "_" default) (hl.isList S.inn).typeIs slot_list_getitem.lookup (indexS S hl hy hk hq) (hs _ _) (fun _ => rfl))
theorem subLast {value slice : Expr} {pos : Pos}
    (h : wpAny (model prog w) A (eval value env) (fun o s₁ => wpAny (model prog w) A (eval slice env) (fun i s₂ => ∃ c F mu vs y, ∃ (t : Tok), St0 c F mu s₂ ∧ SList F o vs ∧ i = .int (-1) t ∧ vs.getLast? = some y ∧ Q y s₂) E s₁) E s)
    (hs : ∀ o i, subscripted slice false o i = operate [o, i] (getItem o i) := by intro _ _; with_unfolding_all rfl) :
    wpAny (model prog w) A (eval (.Subscript value slice pos) env) Q E s := by
  refine Subscript_ (wpAny_mono h (fun o s₁ h₁ => wpAny_mono h₁ (fun i s₂ h₂ => ?_) fun _ _ e => e) fun _ _ e => e)
  obtain ⟨c, F, mu, vs, y, t, S, hl, rfl, hy, hq⟩ := h₂
  obtain ⟨l, ol, rfl, _⟩ := id hl
  exact anyBase (subscriptTail_builtin (value := .Name "_" default) (hl.isList S.inn).typeIs slot_list_getitem.lookup (indexNeg S hl hy hq) (hs _ _) (fun _ => rfl))
theorem subTup {value slice : Expr} {pos : Pos}
    (h : wpAny (model prog w) A (eval value env) (fun o s₁ => wpAny (model prog w) A (eval slice env) (fun i s₂ => ∃ c F mu vs y, ∃ (k : Nat) (t : Tok), St0 c F mu s₂ ∧ STup F o vs ∧ i = .int k t ∧ k ≤ 1000000 ∧ vs[k]? = some y ∧ Q y s₂) E s₁) E s)
    (hs : ∀ o i, subscripted slice false o i = operate [o, i] (getItem o i) := by intro _ _; with_unfolding_all rfl) :
    wpAny (model prog w) A (eval (.Subscript value slice pos) env) Q E s := by
  refine Subscript_ (wpAny_mono h (fun o s₁ h₁ => wpAny_mono h₁ (fun i s₂ h₂ => ?_) fun _ _ e => e) fun _ _ e => e)
  obtain ⟨c, F, mu, vs, y, k, t, S, hl, rfl, hk, hy, hq⟩ := h₂
  obtain ⟨l, ol, rfl, _⟩ := id hl
  exact anyBase (subscriptTail_builtin (value := .Name "_" default) (hl.isTup S.inn).typeIs slot_tuple_getitem.lookup (tupIndexS S hl hy hk hq) (hs _ _) (fun _ => rfl))

def cutL {α : Type} (vs : List α) (lo hi : Option Nat) : List α := (vs.drop (lo.getD 0)).take (hi.getD vs.length - lo.getD 0)
theorem slicePick_cut (vs : List Value) (lo hi : Option Nat) : slicePick vs.toArray (lo.map fun n => (n : Int)) (hi.map fun n => (n : Int)) none = (cutL vs lo hi).toArray := by
  rw [slicePick_plain]
  unfold cutL
  congr 1
  have key : ∀ (a b : Nat), (vs.drop (min a vs.length)).take (min b vs.length - min a vs.length) = (vs.drop a).take (b - a) := fun a b => by
    by_cases h : a ≤ vs.length
    · have e : min a vs.length = a := Nat.min_eq_left h
      rw [e]
      by_cases h2 : b ≤ vs.length
      · rw [Nat.min_eq_left h2]
      · rw [Nat.min_eq_right (by omega : vs.length ≤ b), List.take_of_length_le (by simp), List.take_of_length_le (by simp; omega)]
    · have e : min a vs.length = vs.length := Nat.min_eq_right (by omega)
      have e1 : vs.drop a = [] := by simp; omega
      rw [e, e1, List.drop_length]; simp
  cases lo with
  | none =>
    cases hi with
    | none => simp [Option.elim]
    | some b =>
      have := key 0 b
      simpa [Option.elim, clipAt_nat] using this
  | some a =>
    cases hi with
    | none =>
      have := key a vs.length
      simpa [Option.elim, clipAt_nat] using this
    | some b =>
      have := key a b
      simpa [Option.elim, clipAt_nat] using this

theorem sliceL {value : Expr} {lower upper : Option Expr} {p pos : Pos}
    (h : wpAny (model prog w) A (eval value env) (fun o s₁ => wpAny (model prog w) A (evalPart lower env) (fun vl s₂ => wpAny (model prog w) A (evalPart upper env) (fun vu s₃ => ∃ c F mu vs, ∃ (lo hi : Option Nat), St0 c F mu s₃ ∧ SList F o vs ∧ vs.length ≤ 100000 ∧
      IsPart vl (lo.map fun n => (n : Int)) ∧ IsPart vu (hi.map fun n => (n : Int)) ∧ ∀ a F' s', F.Le F' → St0 c F' mu s' → SList F' (.ref a) (cutL vs lo hi) → Q (.ref a) s') E s₂) E s₁) E s)
    (ht : ∀ o r, letTemporaryGo value o r = pure () := by intro _ _; rfl) :
    wpAny (model prog w) A (eval (.Subscript value (.Slice lower upper none p) pos) env) Q E s := by
  refine wpAny_Subscript_list_slice (wpAny_mono h (fun o s₁ h₁ => wpAny_mono h₁ (fun vl s₂ h₂ => wpAny_mono h₂ (fun vu s₃ h₃ => ?_) fun _ _ e => e) fun _ _ e => e) fun _ _ e => e) ht
  obtain ⟨c, F, mu, vs, lo, hi, S, hl, hz, pl, pu, hq⟩ := h₃
  obtain ⟨l, ol, rfl, _⟩ := id hl
  refine ⟨l, vs.toArray, _, _, rfl, hl.isList S.inn, by rw [List.size_toArray]; show vs.length ≤ 2 ^ 24; omega, pl, pu, ?_⟩
  rw [slicePick_cut]
  obtain ⟨le1, S₁⟩ := S.pushF { cls := .type "slice", data := .fields #[vl, vu, .none] } rfl
  obtain ⟨le2, S₂⟩ := S₁.pushF { cls := .type "list", data := .seq (cutL vs lo hi).toArray } rfl
  have e : (s₃.heap.push { cls := .type "slice", data := .fields #[vl, vu, .none] }).objs.size = s₃.heap.objs.size + 1 := Heap.size_push _ _
  dsimp only at S₂ le2
  rw [e] at S₂ le2
  exact hq _ _ _ (le1.trans le2) S₂ ⟨_, _, rfl, Fz.put_self _ _ _, rfl, rfl, _, rfl⟩
end
end Mine
end

section
/-! M18: for i, x in enumerate(list). -/
set_option maxRecDepth 100000
set_option maxHeartbeats 4000000
namespace Mine
open PySem PySem.Calls PyProof.Rows PySem.W PySem.Builtin

def enK (it : Addr) (i : Nat) (o : Obj) : Prop := ∃ old, o = { cls := .type "enumerate", dict := none, data := .fields #[.none, .bool false, .ref it, rawInt i, .none, old], slots := #[] }

section
variable {prog : Program} {w : World} {A : Around} {E : Value → Shared → Prop} {c : Cx} {F : Fz} {mu : Mu} {s : Shared} {env : Env}

theorem St0.upd2 {a b : Addr} {P P' R R' : Obj → Prop} {s' : Shared} (S : St0 c F ((a, P) :: (b, R) :: mu) s) (hk : ∀ x o, x ≠ a → x ≠ b → s.heap.get? x = some o → s'.heap.get? x = some o)
    (ha : ∃ o, s'.heap.get? a = some o ∧ P' o) (hb : ∃ o, s'.heap.get? b = some o ∧ R' o) (ho : s'.os = s.os) (hg : s'.gens = s.gens) : St0 c F ((a, P') :: (b, R') :: mu) s' := by
  have fa := S.fr _ (List.mem_cons_self)
  have fb := S.swap.fr _ (List.mem_cons_self)
  have nb := S.tail.ne
  have na := S.ne
  refine ⟨S.base, fun x o e => hk x o (fun q => ?_) (fun q => ?_) (S.inn x o e), fun x o e => hk x o (fun q => ?_) (fun q => ?_) (S.old x o e), S.le0, S.new, fun p hp => ?_, fun p hp => ?_, S.nd, ho.trans S.os, hg.trans S.gens⟩
  · rw [q, fa.1] at e; cases e
  · rw [q, fb.1] at e; cases e
  · rw [q, fa.2] at e; cases e
  · rw [q, fb.2] at e; cases e
  · rcases List.mem_cons.mp hp with rfl | hp
    · exact ha
    rcases List.mem_cons.mp hp with rfl | hp
    · exact hb
    · obtain ⟨o, h1, h2⟩ := S.at' p (.tail _ (.tail _ hp))
      exact ⟨o, hk _ _ (na p (.tail _ hp)) (nb p hp) h1, h2⟩
  · rcases List.mem_cons.mp hp with rfl | hp
    · exact fa
    rcases List.mem_cons.mp hp with rfl | hp
    · exact fb
    · exact S.fr p (.tail _ (.tail _ hp))

theorem enumS {l : Addr} {vs : List Value} {Q : Value → Shared → Prop} (S : St0 c F mu s) (hl : SList F (.ref l) vs) (h : ∀ e it s', St0 c F ((e, enK it 0) :: (it, litK l 0) :: mu) s' → Q (.ref e) s') :
    wpAny (model prog w) A (call (.type "enumerate") [.ref l]) Q E s := by
  refine call_enumerate_list (hl.isList S.inn) fun h' he hit hsz hk => ?_
  have S₀ : St0 c F mu { s with heap := h' } := S.keep hk rfl rfl
  have f1 := S.fresh_ne (get_none_size s.heap)
  have hn2 : s.heap.get? (s.heap.objs.size + 1) = none := by
    cases q : s.heap.get? (s.heap.objs.size + 1) with
    | none => rfl
    | some o => exact absurd (Heap.lt_size q) (Nat.not_lt.mpr (Nat.le_succ _))
  have f2 := S.fresh_ne hn2
  obtain ⟨o, ho, hc, hd⟩ := hit
  have S₁ : St0 c F ((s.heap.objs.size, litK l 0) :: mu) { s with heap := h' } := S₀.cons f1.1 f1.2.1 f1.2.2 ⟨o, ho, hc, hd⟩
  refine h _ s.heap.objs.size _ (S₁.cons f2.1 f2.2.1 (fun p hp => ?_) ⟨_, he, _, rfl⟩)
  rcases List.mem_cons.mp hp with rfl | hp
  · exact Nat.ne_of_lt (Nat.lt_succ_self _)
  · exact f2.2.2 p hp

theorem forEnumS {elts : List Expr} {k : Nat} {tp : Pos} {iter : Expr} {body : List Stmt} {pos : Pos} {Q : Flow → Shared → Prop} {E : Value → Shared → Prop} (hh : A.handled = none)
    (hn : (assignEach elts env).length = 2) (hstar : (assignEach elts env).findIdx? (·.1) = none)
    (Inv : Nat → Fz → (PySem.Str → Option Value) → Mu → Prop)
    (hit : wpAny (model prog w) A (eval iter env) (fun x s₁ => ∃ c₁ F₁ m₁ mu₁ e it l vs, x = .ref e ∧ St c₁ F₁ env.locals m₁ ((e, enK it 0) :: (it, litK l 0) :: mu₁) s₁ ∧ SList F₁ (.ref l) vs ∧ Inv 0 F₁ m₁ mu₁ ∧
      (∀ i x t m F' mu' s', vs[i]? = some x → F₁.Le F' → Inv i F' m mu' → St c₁ F' env.locals m ((e, enK it (i + 1)) :: (it, litK l (i + 1)) :: mu') s' →
        wpAny (model prog w) A (assignInOrder ((assignEach elts env).map (·.2)) [.int i t, x]) (fun _ s₂ => wpAny (model prog w) A (execs body env) (fun f s₃ => match f with
          | .next | .cont => ∃ m' F'' mu'', F'.Le F'' ∧ St c₁ F'' env.locals m' ((e, enK it (i + 1)) :: (it, litK l (i + 1)) :: mu'') s₃ ∧ Inv (i + 1) F'' m' mu''
          | .brk => Q .next s₃
          | .ret v => Q (.ret v) s₃) NE s₂) NE s') ∧
      (∀ F' m mu' s', F₁.Le F' → Inv vs.length F' m mu' → St c₁ F' env.locals m mu' s' → Q .next s')) E s)
    (hs : ∀ x, foldedSetIterable iter env x = pure x := by intro _; rfl) :
    wpAny (model prog w) A (exec (.For (.Tuple elts k tp) iter body [] pos) env) Q E s := by
  refine wpAny_For (wpAny_mono hit (fun x s₁ hx => ?_) fun _ _ e => e) hs
  obtain ⟨c₁, F₁, m₁, mu₁, e, it, l, vs, rfl, S₁, hl, hI0, turn, fin⟩ := hx
  obtain ⟨oe, hoe, old, hke⟩ := S₁.swap.hd
  subst hke
  refine wpAny_pyIter_enum (e := e) (it := it) (i := 0) hoe ?_
  refine forTests (fun k s' => ∃ i m F' mu', k = vs.length - i ∧ i ≤ vs.length ∧ F₁.Le F' ∧ Inv i F' m mu' ∧ St c₁ F' env.locals m ((e, enK it i) :: (it, litK l i) :: mu') s') ?_ vs.length ⟨0, m₁, F₁, mu₁, rfl, Nat.zero_le _, .refl _, hI0, S₁⟩
  rintro k' s' ⟨i, m, F', mu', rfl, hi, hle, hInv, T⟩
  have T2 := T.rot.rot
  obtain ⟨oe, hoe, old', hke⟩ := T2.hd
  subst hke
  obtain ⟨oi, hoi, hki⟩ := T2.swap.hd
  have hne : e ≠ it := fun q => T2.ne (it, litK l i) (List.mem_cons_self) q.symm
  by_cases hlt : i < vs.length
  · have hx : vs.toArray[i]? = some vs[i] := by simp [hlt]
    refine wpAny_pyNext_enum_item (e := e) (it := it) (l := l) (i := i) (items := vs.toArray) hoe ⟨oi, hoi, hki⟩ ((hl.le hle).isList T.inn) hx hne fun h' ho' hit' hT hsz hk => ?_
    have helt : e < s'.heap.objs.size := Heap.lt_size hoe
    refine wpAny_letOwnedTupleGo_enum ho' fun h'' he'' hs'' => ?_
    have keep : ∀ b o, b ≠ e → b ≠ it → s'.heap.get? b = some o → h''.get? b = some o := fun b o h1 h2 q => (hs''.2 b h1).trans (hk b o h1 h2 q)
    have hTe : s'.heap.objs.size ≠ e := Nat.ne_of_gt helt
    have hT'' : h''.get? s'.heap.objs.size = some { cls := .type "tuple", data := .seq #[.int i s'.toks, vs[i]] } := (hs''.2 _ hTe).trans hT
    obtain ⟨oi', hoi', hki'⟩ := hit'
    have T3 : St0 c₁ F' ((e, enK it (i + 1)) :: (it, litK l (i + 1)) :: (env.locals, nsIs m) :: mu') { s' with heap := h'', toks := s'.toks + 1 } :=
      T2.upd2 keep ⟨_, he'', _, rfl⟩ ⟨oi', (hs''.2 it (Ne.symm hne)).trans hoi', hki'⟩ rfl rfl
    refine assign_Tuple_tuple hh (t := s'.heap.objs.size) (items := #[.int i s'.toks, vs[i]]) ⟨_, hT'', rfl, _, rfl⟩ hn hstar fun h3 hext => ?_
    -- the tuple that was made is forgotten
    have T4 : St0 c₁ F' ((e, enK it (i + 1)) :: (it, litK l (i + 1)) :: (env.locals, nsIs m) :: mu') { s' with heap := h3, toks := s'.toks + 1 } := by
      refine T3.keep (s' := { s' with heap := h3, toks := s'.toks + 1 }) (fun b o q => hext b o (fun z => ?_) q) rfl rfl
      exact absurd (Heap.lt_size q) (by rw [z]; exact Nat.lt_irrefl _)
    refine wpAny_mono (turn i vs[i] s'.toks m F' mu' _ (by simp [hlt]) hle hInv T4.rot) (fun _ s₂ h₂ => wpAny_mono h₂ (fun f s₃ h₃ => ?_) fun _ _ e => e.elim) fun _ _ e => e.elim
    cases f with
    | next => obtain ⟨m', F'', mu'', a1, a2, a3⟩ := h₃; exact ⟨vs.length - (i + 1), by omega, i + 1, m', F'', mu'', rfl, hlt, hle.trans a1, a3, a2⟩
    | cont => obtain ⟨m', F'', mu'', a1, a2, a3⟩ := h₃; exact ⟨vs.length - (i + 1), by omega, i + 1, m', F'', mu'', rfl, hlt, hle.trans a1, a3, a2⟩
    | brk => exact h₃
    | ret v => exact h₃
  · have hin : i = vs.length := by omega
    subst hin
    refine wpAny_pyNext_enum_end (e := e) (it := it) (l := l) (i := vs.length) (items := vs.toArray) hh hoe ⟨oi, hoi, hki⟩ ((hl.le hle).isList T.inn) (by simp) fun h' hk => wpAny_execs_nil ?_
    refine fin F' m mu' _ hle hInv ?_
    exact objGone (h' := h') (tk := s'.toks) T2.swap.drop2 fun b o hb q => hk b o hb q
end
end Mine
end

section
/-! M19: small helpers for the walks; the plain functions of commonpath. -/
set_option maxRecDepth 100000
set_option maxHeartbeats 4000000
namespace Mine
open PySem PySem.Calls PyProof.Rows PySem.W PySem.Builtin

theorem St0.cell {c : Cx} {F : Fz} {mu : Mu} {s : Shared} {a : Addr} {v : Option Value} (S : St0 c F mu s) (h : (a, cellIs v) ∈ mu) : s.heap.IsCell a v := S.at' _ h
theorem St0.swap23 {c : Cx} {F : Fz} {mu : Mu} {s : Shared} {x y z : Addr × (Obj → Prop)} (S : St0 c F (x :: y :: z :: mu) s) : St0 c F (x :: z :: y :: mu) s := S.perm ((List.Perm.swap z y mu).cons x)
theorem oldCell {H : Heap} {F₁ F : Fz} {mu : Mu} {s₁ s : Shared} {a : Addr} {v : Option Value} (S : St0 (cx H F₁ s₁) F mu s) (h : s₁.heap.IsCell a v) : s.heap.IsCell a v := let ⟨o, ho, hd⟩ := h; ⟨o, S.old _ _ ho, hd⟩
theorem freeze2 {c : Cx} {F : Fz} {mu : Mu} {s : Shared} {x : Addr × (Obj → Prop)} {D : Addr} {vs : List Value} (S : St0 c F (x :: (D, lst vs) :: mu) s) : ∃ F', F.Le F' ∧ St0 c F' (x :: mu) s ∧ SList F' (.ref D) vs := by
  obtain ⟨o, hP, hle, hput, S'⟩ := S.swap.freeze
  exact ⟨_, hle, S', D, o, rfl, hput, hP⟩

/-- lists of lists of texts, standing still -/
def SLs (oct : Bool) (F : Fz) (pss : List (List T)) (vs : List Value) : Prop := Paired (fun ps v => ∃ ws, SList F v ws ∧ TxL oct ps ws) pss vs
theorem Paired.imp {α : Type} {R S : α → Value → Prop} (h : ∀ a v, R a v → S a v) : ∀ {l : List α} {vs : List Value}, Paired R l vs → Paired S l vs
  | _, _, .nil => .nil
  | _, _, .cons x r => .cons (h _ _ x) (Paired.imp h r)
theorem SLs.le {oct : Bool} {F G : Fz} {pss : List (List T)} {vs : List Value} (h : SLs oct F pss vs) (l : F.Le G) : SLs oct G pss vs := Paired.imp (fun _ _ ⟨ws, a, b⟩ => ⟨ws, a.le l, b⟩) h
theorem Paired.snoc {α : Type} {R : α → Value → Prop} : ∀ {l : List α} {vs : List Value} {a : α} {v : Value}, Paired R l vs → R a v → Paired R (l ++ [a]) (vs ++ [v])
  | _, _, _, _, .nil, h => .cons h .nil
  | _, _, _, _, .cons x r, h => .cons x (Paired.snoc r h)
theorem Paired.get {α : Type} {R : α → Value → Prop} : ∀ {l : List α} {vs : List Value}, Paired R l vs → ∀ i, i < l.length → ∃ a v, l[i]? = some a ∧ vs[i]? = some v ∧ R a v
  | _, _, .nil, i, h => absurd h (Nat.not_lt_zero _)
  | _, _, .cons (a := a) (b := b) x r, 0, _ => ⟨a, b, rfl, rfl, x⟩
  | _, _, .cons _ r, i + 1, h => by
    obtain ⟨a, v, h1, h2, h3⟩ := Paired.get r i (Nat.lt_of_succ_lt_succ h)
    exact ⟨a, v, h1, h2, h3⟩
theorem take_snoc {α : Type} {l : List α} {i : Nat} {a : α} (h : l[i]? = some a) : l.take (i + 1) = l.take i ++ [a] := by
  rw [List.take_add_one, h]; rfl
theorem TxL.take {oct : Bool} : ∀ {l : List T} {vs : List Value}, TxL oct l vs → ∀ n, TxL oct (l.take n) (vs.take n)
  | _, _, .nil, n => by simp only [List.take_nil]; exact .nil
  | _, _, .cons x r, 0 => by simp only [List.take_zero]; exact .nil
  | _, _, .cons x r, n + 1 => by simp only [List.take_succ_cons]; exact .cons x (TxL.take r n)
theorem TxL.drop {oct : Bool} : ∀ {l : List T} {vs : List Value}, TxL oct l vs → ∀ n, TxL oct (l.drop n) (vs.drop n)
  | _, _, .nil, n => by simp only [List.drop_nil]; exact .nil
  | _, _, .cons x r, 0 => by simp only [List.drop_zero]; exact .cons x r
  | _, _, .cons x r, n + 1 => by simp only [List.drop_succ_cons]; exact TxL.drop r n

/-- the names in a path -/
def keepL (c : T) : Bool := decide (c ≠ []) && decide (c ≠ [46])
def namesL (l : T) : List T := (splitL l).filter keepL
/-- the common head of two rows of names -/
def lcpL : List T → List T → List T
  | a :: r, b :: q => if a = b then a :: lcpL r q else []
  | _, _ => []
def comL (a b : T) : T := (if startsL a then [47] else []) ++ joinL (lcpL (namesL a) (namesL b))

theorem lcpL_le_l : ∀ (a b : List T), (lcpL a b).length ≤ a.length
  | [], _ => Nat.le_refl _
  | _ :: _, [] => Nat.zero_le _
  | x :: a, y :: b => by
    unfold lcpL
    split
    · exact Nat.succ_le_succ (lcpL_le_l a b)
    · exact Nat.zero_le _
theorem lcpL_comm : ∀ (a b : List T), lcpL a b = lcpL b a
  | [], [] => rfl
  | [], _ :: _ => rfl
  | _ :: _, [] => rfl
  | x :: a, y :: b => by
    unfold lcpL
    by_cases h : x = y
    · rw [if_pos h, if_pos h.symm, h, lcpL_comm a b]
    · rw [if_neg h, if_neg fun e => h e.symm]
theorem lcpL_take : ∀ (a b : List T), lcpL a b = a.take (lcpL a b).length
  | [], _ => rfl
  | _ :: _, [] => rfl
  | x :: a, y :: b => by
    unfold lcpL
    by_cases h : x = y
    · rw [if_pos h, List.length_cons, List.take_succ_cons, ← lcpL_take a b]
    · rw [if_neg h]; rfl
theorem lcpL_self : ∀ a : List T, lcpL a a = a
  | [] => rfl
  | x :: a => by unfold lcpL; rw [if_pos rfl, lcpL_self a]
/-- how the loop finds it: the first place where the rows part -/
theorem lcpL_part : ∀ (a b : List T) (i : Nat), a.take i = b.take i → i ≤ a.length → i ≤ b.length → a[i]? ≠ b[i]? → lcpL a b = a.take i
  | a, b, 0, _, _, _, h => by
    cases a with
    | nil => rfl
    | cons x a =>
      cases b with
      | nil => rfl
      | cons y b =>
        unfold lcpL
        rw [if_neg fun e => h (by simp [e])]; rfl
  | [], b, i + 1, _, h, _, _ => absurd h (Nat.not_succ_le_zero _)
  | _ :: _, [], i + 1, _, _, h, _ => absurd h (Nat.not_succ_le_zero _)
  | x :: a, y :: b, i + 1, ht, h1, h2, h => by
    simp only [List.take_succ_cons, List.cons.injEq] at ht
    unfold lcpL
    rw [if_pos ht.1, List.take_succ_cons, lcpL_part a b i ht.2 (Nat.le_of_succ_le_succ h1) (Nat.le_of_succ_le_succ h2) (by simpa using h)]
theorem lcpL_pre : ∀ (a b : List T), a.length ≤ b.length → a = b.take a.length → lcpL a b = a
  | [], _, _, _ => rfl
  | _ :: _, [], h, _ => absurd h (Nat.not_succ_le_zero _)
  | x :: a, y :: b, h, e => by
    simp only [List.length_cons, List.take_succ_cons, List.cons.injEq] at e
    unfold lcpL
    rw [if_pos e.1, lcpL_pre a b (Nat.le_of_succ_le_succ h) e.2]
/-- a row that does not come after: while they agree, the other goes on -/
theorem lexL_goes : ∀ (a b : List T) (i : Nat), lexL b a = false → a.take i = b.take i → i < a.length → i ≤ b.length → i < b.length
  | a, [], i, h, _, hi, hb => by
    cases a with
    | nil => exact absurd hi (Nat.not_lt_zero _)
    | cons x a => cases h
  | a, y :: b, 0, _, _, _, _ => Nat.zero_lt_succ _
  | [], y :: b, i + 1, _, _, hi, _ => absurd hi (Nat.not_lt_zero _)
  | x :: a, y :: b, i + 1, h, e, hi, hb => by
    simp only [List.take_succ_cons, List.cons.injEq] at e
    unfold lexL at h
    rw [if_pos e.1.symm] at h
    exact Nat.succ_lt_succ (lexL_goes a b i h e.2 (Nat.lt_of_succ_lt_succ hi) (Nat.le_of_succ_le_succ hb))
theorem T_lt_irrefl (a : T) : ¬ a < a := List.lt_irrefl a
theorem T_lt_asymm {a b : T} (h : a < b) : ¬ b < a := fun h' => List.lt_irrefl a (List.lt_trans h h')
theorem lexL_asymm : ∀ (a b : List T), lexL a b = true → lexL b a = false
  | [], [], h => by cases h
  | [], _ :: _, _ => rfl
  | _ :: _, [], h => by cases h
  | x :: a, y :: b, h => by
    unfold lexL at h ⊢
    by_cases e : x = y
    · rw [if_pos e] at h; rw [if_pos e.symm]; exact lexL_asymm a b h
    · rw [if_neg e] at h; rw [if_neg fun q => e q.symm]
      exact decide_eq_false (T_lt_asymm (of_decide_eq_true h))
theorem namesL_byt {l : T} (h : Byt l) : ∀ p ∈ namesL l, Byt p := fun p hp => h.sub (splitL_mem (List.mem_filter.mp hp).1)
theorem namesL_len {l : T} : (namesL l).length ≤ l.length + 1 := Nat.le_trans (List.length_filter_le _ _) (splitL_length l)
theorem joinL_mem_len : ∀ (ps : List T) (p : T), p ∈ ps → p.length ≤ (joinL ps).length
  | [], _, h => nomatch h
  | [q], p, h => by rcases List.mem_singleton.mp h with rfl; exact Nat.le_refl _
  | q :: r :: rs, p, h => by
    simp only [joinL, List.length_append, List.length_cons]
    rcases List.mem_cons.mp h with rfl | h
    · omega
    · have := joinL_mem_len (r :: rs) p h; omega
theorem splitL_len {l p : T} (h : p ∈ splitL l) : p.length ≤ l.length := by
  have := joinL_mem_len (splitL l) p h
  rwa [splitL_join] at this
theorem T_total {a b : T} (h1 : ¬ a < b) (h2 : ¬ b < a) : a = b := List.le_antisymm (List.not_lt.mp h2) (List.not_lt.mp h1)
theorem lexL_total : ∀ (a b : List T), lexL a b = false → lexL b a = false → a = b
  | [], [], _, _ => rfl
  | [], _ :: _, h, _ => by cases h
  | _ :: _, [], _, h => by cases h
  | x :: a, y :: b, h1, h2 => by
    unfold lexL at h1 h2
    by_cases e : x = y
    · rw [if_pos e] at h1; rw [if_pos e.symm] at h2
      rw [e, lexL_total a b h1 h2]
    · rw [if_neg e] at h1; rw [if_neg fun q => e q.symm] at h2
      exact absurd (T_total (of_decide_eq_false h1) (of_decide_eq_false h2)) e
def lowL (a b : List T) : List T := if lexL b a = true then b else a
def highL (a b : List T) : List T := if lexL a b = true then b else a
theorem lexL_irrefl (a : List T) : lexL a a = false := by
  cases h : lexL a a with
  | false => rfl
  | true => have := lexL_asymm a a h; rw [h] at this; cases this
theorem low_high (a b : List T) : lexL (highL a b) (lowL a b) = false := by
  unfold lowL highL
  by_cases h : lexL b a = true
  · have h' := lexL_asymm _ _ h
    rw [if_pos h, if_neg (by rw [h']; exact Bool.false_ne_true)]
    exact h'
  · rw [if_neg h]
    by_cases h2 : lexL a b = true
    · rw [if_pos h2]; exact lexL_asymm _ _ h2
    · rw [if_neg h2]; exact lexL_irrefl a
theorem low_high_lcp (a b : List T) : lcpL (lowL a b) (highL a b) = lcpL a b := by
  unfold lowL highL
  by_cases h : lexL b a = true
  · rw [if_pos h, if_neg (by rw [lexL_asymm _ _ h]; exact Bool.false_ne_true)]
    exact lcpL_comm _ _
  · rw [if_neg h]
    by_cases h2 : lexL a b = true
    · rw [if_pos h2]
    · rw [if_neg h2, lexL_total a b (by simpa using h2) (by simpa using h)]
theorem assign2 {M : Model} {A : Around} {E : Value → Shared → Prop} {s : Shared} {t1 t2 : Value → Sem Unit} {v1 v2 : Value} {Q : Unit → Shared → Prop}
    (h : wpAny M A (t1 v1) (fun _ s₁ => wpAny M A (t2 v2) (fun _ => Q ()) E s₁) E s) : wpAny M A (assignInOrder [t1, t2] [v1, v2]) Q E s := by
  unfold assignInOrder
  refine wpAny_bind (wpAny_holding (wpAny_mono h (fun _ s₁ h₁ => ?_) fun _ _ e => e))
  unfold assignInOrder
  refine wpAny_bind (wpAny_holding (wpAny_mono h₁ (fun _ s₂ h₂ => ?_) fun _ _ e => e))
  unfold assignInOrder
  exact wpAny_pure h₂
end Mine
end

section
/-! F4: commonpath of two. -/
set_option maxRecDepth 100000
set_option maxHeartbeats 4000000
namespace Mine
open PySem PySem.Calls PyProof.Rows PySem.W PySem.Builtin

section
variable {prog : Program} {w : World} {A : Around} {E : Value → Shared → Prop} {c : Cx} {F : Fz} {mu : Mu} {s : Shared} {env : Env}
/-- one truth value out of its set -/
theorem unpackSet {b : Bool} {D : Addr} {e : Expr} {k : Nat} {p : Pos} {Q : Unit → Shared → Prop} (hh : A.handled = none) (S : St0 c F ((D, setB w b) :: mu) s)
    (h : ∀ s', St0 c F mu s' → wpAny (model prog w) A (assign e env (.bool b)) Q E s')
    (hs : assignEach [e] env = [(false, assign e env)] := by rfl) :
    wpAny (model prog w) A (assign (.Tuple [e] k p) env (.ref D)) Q E s := by
  rw [assign_Tuple, hs]
  obtain ⟨o, ho, hk⟩ := S.hd
  have hT : s.TypeIs (.ref D) "set" := ⟨o, ho, by rw [hk]⟩
  refine wpAny_bind (wpAny_standAt ?_)
  unfold unpack
  refine wpAny_bind (wpAny_holding ?_)
  show wpAny _ _ (unpackItems (.ref D) 1 none) _ _ s
  unfold unpackItems
  refine wpAny_bind ?_
  · unfold notIterableAtAll
    refine wpAny_bind (wpAny_specialOf hT PySem.F.slot_set_iter.lookup ?_)
    simp only [Option.isSome_some, if_true]
    refine wpAny_pure ?_
    simp only [Bool.false_eq_true, if_false]
    refine wpAny_bind (wpAny_holding (setIter S fun I s₁ S₁ => ?_))
    refine wpAny_bind (wpAny_holding ?_)
    unfold draw
    refine wpAny_bind (setNextItem S₁ fun s₂ S₂ => ?_)
    refine wpAny_bind (wpAny_holding ?_)
    unfold draw
    refine wpAny_pure (wpAny_pure ?_)
    rw [if_neg (by simp)]
    refine wpAny_bind (wpAny_holding (setNextEnd hh S₂ fun s₃ S₃ => ?_))
    rw [if_neg (by simp)]
    refine wpAny_pure ?_
    show wpAny _ _ (assignInOrder [assign e env] [.bool b]) _ _ s₃
    unfold assignInOrder
    refine wpAny_bind (wpAny_holding (wpAny_mono (h s₃ S₃.tail) (fun _ s₄ h₄ => ?_) fun _ _ e => e))
    unfold assignInOrder
    exact wpAny_pure h₄
end
end Mine
end

section
/-! F5: commonpath, walked. -/
set_option maxRecDepth 100000
set_option maxHeartbeats 4000000
namespace Mine
open PySem PySem.Calls PyProof.Rows PySem.W PySem.Builtin

section
variable {prog : Program} {w : World} {A : Around} {H : Heap} {mg mb : PySem.Str → Option Value} {F : Fz} {s : Shared} {f f1 : Addr} {fd fd1 : FuncData}

theorem commonC (B : Bs H mg mb) (G : Gl mg) (X : FnAt H mg "commonpath" (nth 16) f fd) (X1 : FnAt H mg "fspath" (nth 9) f1 fd1) (p : Pre H F s) (hr : Rm A 16) (oct : Bool) (a b : T) (ta tb : Tok) (l : Addr)
    (ha : Byt a) (hza : a.length ≤ 500) (hb : Byt b) (hzb : b.length ≤ 500) (hst : startsL b = startsL a) (hl : SList F (.ref l) [tx oct a ta, tx oct b tb]) :
    codeAny (model prog w) A (.call (.ref f) ⟨[.ref l], []⟩) (Res s F fun _ v => ∃ t', v = tx oct (comL a b) t') s := by
  refine enterC B X p hr (X.bindW (binds := [("paths", .ref l)]) (fun _ _ _ _ _ _ _ _ _ _ _ _ => rfl) ?_)
  refine ⟨F, .refl _, p.start, ?_, fun env s₂ he hc S₂ hr' => ?_⟩
  · intro x hx
    simp only [List.mem_cons, List.not_mem_nil, or_false] at hx
    subst hx
    exact .inl rfl
  have hh : (A.deeper env).handled = none := hr'.hd
  have ec : env.cells = [(("curdir" : PySem.Str), env.locals + 1 + 1), (("sep" : PySem.Str), env.locals + 1)] := by rw [hc]; rfl
  rw [ec] at S₂
  generalize hca : env.locals + 1 + 1 = ca at ec S₂
  generalize hsa : env.locals + 1 = sa at ec S₂
  replace S₂ : St (cx H F s) F env.locals _ [(ca, cellIs none), (sa, cellIs none)] s₂ := S₂
  -- paths = tuple(map(fspath, paths))
  refine execsNext (wpAny_Assign_Name (cT1 (fun _ h => ldB S₂ B G he h) (cT2 (fun _ h => ldB S₂ B G he h) (ldg' S₂ B he X1.at' (ld' S₂ he rfl (mapNew S₂ hl fun m it F₁ s₃ hle₁ S₃ X₃ => ?_))))))
  refine tupleMap (P := fun i F v => ∃ t, v = if i = 0 then tx oct a t else tx oct b t) hh (fun _ _ _ _ _ h => h) (by simp) X₃ S₃ (fun i x F' mu' s' hx hle' S' => ?_) fun tp F₂ s₄ ys hle₂ S₄ htp hlen hys => ?_
  · have hr4 : Rm (A.deeper env).in1.in1.in1.in1 2 := ((((hr'.le (by omega : 6 ≤ 15)).in1).in1).in1).in1
    match i, hx with
    | 0, hx =>
      cases hx
      exact codeAny_mono (fspathC B G X1 S'.pre hr4 oct a ta) fun r s'' ⟨v, F'', e1, e2, e3⟩ => ⟨v, F'', e1, e2, ta, by rw [e3]; rfl⟩
    | 1, hx =>
      cases hx
      exact codeAny_mono (fspathC B G X1 S'.pre hr4 oct b tb) fun r s'' ⟨v, F'', e1, e2, e3⟩ => ⟨v, F'', e1, e2, tb, by rw [e3]; rfl⟩
    | n + 2, hx => cases hx
  obtain ⟨y0, y1, rfl⟩ : ∃ y0 y1, ys = [y0, y1] := by
    match ys, hlen with
    | [y0, y1], _ => exact ⟨y0, y1, rfl⟩
  obtain ⟨t0, e0⟩ := hys 0 y0 rfl
  obtain ⟨t1, e1⟩ := hys 1 y1 rfl
  rw [if_pos rfl] at e0
  rw [if_neg (by decide)] at e1
  subst e0 e1
  refine st' S₄ he fun s₅ S₅ => ⟨rfl, ?_⟩
  obtain ⟨m5, hp5, S₅⟩ : ∃ m5, m5 "paths" = some (.ref tp) ∧ St (cx H F s) F₂ env.locals m5 [(ca, cellIs none), (sa, cellIs none)] s₅ := ⟨_, rfl, S₅⟩
  clear hys hlen X₃ S₂ S₃ S₄
  -- if not paths
  refine execsNext (wpAny_If (isTrue_not (wpAny_isTrue_value (ld' S₅ he hp5 (truthTupS S₅ htp (by simp) fun s₆ S₆ => ?_)))))
  rw [if_neg (by simp)]
  refine wpAny_execs_nil ⟨rfl, ?_⟩
  -- if isinstance(paths[0], bytes)
  refine execsNext (wpAny_mono (Q := fun f s' => f = .next ∧ ∃ tc ts, St (cx H F s) F₂ env.locals m5 [(ca, cellIs (some (tx oct [46] tc))), (sa, cellIs (some (tx oct [47] ts)))] s') ?_ (fun fl s₇ hq => ?_) fun _ _ e => e)
  · refine wpAny_If (wpAny_isTrue_value (cB2 (fun _ h => ldB S₆ B G he h) (subTup (ld' S₆ he hp5 (constI S₆ fun s₇ t7 S₇ => ⟨_, _, _, _, _, 0, t7, S₇, htp, rfl, by omega, rfl, ldB S₇ B G he (isbytesT S₇ fun s₈ S₈ => wpAny_truthy_bool ?_)⟩)))))
    cases oct with
    | true =>
      rw [if_pos rfl]
      refine execsNext (wpAny_Assign_Name (constB S₈ fun s₉ t9 S₉ => stc' S₉.swap23 he (by rw [ec]; rfl) fun s10 S10 => ⟨rfl, ?_⟩))
      refine execsNext (wpAny_Assign_Name (constB S10 fun s11 t11 S11 => stc' S11.swap23 he (by rw [ec]; rfl) fun s12 S12 => ⟨rfl, wpAny_execs_nil ⟨rfl, t11, t9, S12⟩⟩))
    | false =>
      rw [if_neg Bool.false_ne_true]
      refine execsNext (wpAny_Assign_Name (constT S₈ fun s₉ t9 S₉ => stc' S₉.swap23 he (by rw [ec]; rfl) fun s10 S10 => ⟨rfl, ?_⟩))
      refine execsNext (wpAny_Assign_Name (constT S10 fun s11 t11 S11 => stc' S11.swap23 he (by rw [ec]; rfl) fun s12 S12 => ⟨rfl, wpAny_execs_nil ⟨rfl, t11, t9, S12⟩⟩))
  obtain ⟨rfl, tc, ts, S₇⟩ := hq
  refine ⟨rfl, ?_⟩
  refine wpAny_execs_cons (tryS ?_)
  -- split_paths = [path.split(sep) for path in paths]
  refine execsNext (lcompA (cl := [(("sep" : PySem.Str), sa)]) hh he rfl (by rfl) (by rw [ec]; rfl) (by rfl) (fun i F ys => SLs oct F (([a, b].take i).map splitL) ys) (fun _ _ _ _ l h => h.le l) (ld' S₇ he hp5 ?_))
  refine ⟨_, _, _, _, _, _, S₇, itTup hh htp, by simp, .nil, ?_, ?_⟩
  · intro cenv i v I K D m F' ys s' heC hcC hi hv hle hJ hys S'
    refine wpAny_assign_Name (st' S' heC fun s₈ S₈ => wpAny_tests_nil ?_)
    rw [if_pos rfl]
    have hsep := oldCell S₈ (S₇.cell (a := sa) (v := some (tx oct [47] ts)) (by simp))
    obtain ⟨q, tq, hq, hvq, hbq, hzq⟩ : ∃ q tq, [a, b][i]? = some q ∧ v = tx oct q tq ∧ Byt q ∧ q.length ≤ 500 := by
      match i, hi, hv with
      | 0, _, hv => exact ⟨a, t0, rfl, by simpa using hv.symm, ha, hza⟩
      | 1, _, hv => exact ⟨b, t1, rfl, by simpa using hv.symm, hb, hzb⟩
    subst hvq
    refine mcall1 mf_split (ld' S₈ heC rfl ⟨q, tq, rfl, ldc' heC (by rw [hcC]; rfl) hsep (splitT S₈ hbq (by omega) fun D2 s₉ vs S₉ hvs => ?_)⟩)
    obtain ⟨F'', hle'', S₉, hD2⟩ := freeze2 S₉
    refine ⟨_, F'', hle'', S₉, ?_⟩
    rw [take_snoc hq, List.map_append]
    exact (hJ.le hle'').snoc ⟨vs, hD2, hvs⟩
  intro D F₃ ys s₈ hle₃ S₈ hD hJ hlen
  refine ⟨rfl, ?_⟩
  -- isabs, = {..}
  obtain ⟨m8, hp8, hs8, S₈⟩ : ∃ m8, m8 "paths" = some (.ref tp) ∧ m8 "split_paths" = some (.ref D) ∧ St (cx H F s) F₃ env.locals m8 [(ca, cellIs (some (tx oct [46] tc))), (sa, cellIs (some (tx oct [47] ts)))] s₈ := ⟨_, hp5, rfl, S₈⟩
  have htp3 := htp.le hle₃
  refine execsNext (tryS (execsNext (Assign_Tuple (scomp1 (cl := [(("sep" : PySem.Str), sa)]) he (by rw [ec]; rfl) (by rfl) (fun i F Acc => Acc = if i = 0 then set0 w else setB w (startsL a)) (ld' S₈ he hp8 ?_)))))
  refine ⟨_, _, _, _, _, S₈, itTup hh htp3, rfl, ?_, ?_⟩
  · intro cenv i v I K D2 m F' Acc s' heC hcC hi hv hle hJ S'
    refine wpAny_assign_Name (st' S' heC fun s₉ S₉ => ?_)
    have hsep := oldCell S₉ (S₈.cell (a := sa) (v := some (tx oct [47] ts)) (by simp))
    obtain ⟨q, tq, hvq, hbq, hstq⟩ : ∃ q tq, v = tx oct q tq ∧ Byt q ∧ startsL q = startsL a := by
      match i, hi, hv with
      | 0, _, hv => exact ⟨a, t0, by simpa using hv.symm, ha, rfl⟩
      | 1, _, hv => exact ⟨b, t1, by simpa using hv.symm, hb, hst⟩
    subst hvq
    refine mcall1 mf_starts (ld' S₉ heC rfl ⟨q, tq, rfl, ldc' heC (by rw [hcC]; rfl) hsep (startsT hbq ?_)⟩)
    rw [hstq]
    subst hJ
    by_cases h0 : i = 0
    · rw [if_pos h0] at S₉
      exact setAdd0 S₉.rot fun s10 S10 => ⟨_, F', _, .refl _, S10.rot.rot, by rw [if_neg (by omega)]⟩
    · rw [if_neg h0] at S₉
      exact setAdd1 S₉.rot fun s10 S10 => ⟨_, F', _, .refl _, S10.rot.rot, by rw [if_neg (by omega)]⟩
  intro D2 F₄ Acc s₉ hle₄ S₉ hJ2
  have hJ3 : Acc = setB w (startsL a) := by rw [hJ2]; rfl
  subst hJ3
  refine unpackSet hh S₉ fun s10 S10 => wpAny_assign_Name (st' S10 he fun s11 S11 => ⟨rfl, wpAny_execs_nil (wpAny_execs_nil ⟨rfl, ?_⟩)⟩)
  obtain ⟨m11, hs11, hi11, S₁₁⟩ : ∃ m11, m11 "split_paths" = some (.ref D) ∧ m11 "isabs" = some (.bool (startsL a)) ∧ St (cx H F s) F₄ env.locals m11 [(ca, cellIs (some (tx oct [46] tc))), (sa, cellIs (some (tx oct [47] ts)))] s11 := ⟨_, hs8, rfl, S11⟩
  -- the names
  have hDs : SList F₄ (.ref D) ys := hD.le hle₄
  have hJs : SLs oct F₄ ([a, b].map splitL) ys := by
    have := hJ.le hle₄
    simpa using this
  have hl2 : ys.length = 2 := by rw [← hJs.length]; rfl
  refine execsNext (lcompA (cl := [(("curdir" : PySem.Str), ca)]) hh he rfl (by rfl) (by rw [ec]; rfl) (by rfl) (fun i F ys => SLs oct F (([a, b].take i).map namesL) ys) (fun _ _ _ _ l h => h.le l) (ld' S₁₁ he hs11 ?_))
  refine ⟨_, _, _, _, _, _, S₁₁, itList hh hDs, by omega, .nil, ?_, ?_⟩
  · intro cenv i v I K D2 m F' ys2 s' heC hcC hi hv hle hJ2 hys S'
    refine wpAny_assign_Name (st' S' heC fun s12 S12 => wpAny_tests_nil ?_)
    rw [if_pos rfl]
    have hcur := oldCell S12 (S₁₁.cell (a := ca) (v := some (tx oct [46] tc)) (by simp))
    obtain ⟨q, hq, hvq, hbq, hzq⟩ : ∃ q, [a, b][i]? = some q ∧ (∃ ws, SList F₄ v ws ∧ TxL oct (splitL q) ws) ∧ Byt q ∧ q.length ≤ 500 := by
      obtain ⟨ps, v', h1, h2, h3⟩ := Paired.get hJs i (by rw [hJs.length]; exact hi)
      rw [hv] at h2; cases h2
      have hi2 : i < 2 := by omega
      match i, hi2 with
      | 0, _ => exact ⟨a, rfl, by cases h1; exact h3, ha, hza⟩
      | 1, _ => exact ⟨b, rfl, by cases h1; exact h3, hb, hzb⟩
    obtain ⟨ws, hws, hwt⟩ := hvq
    have hwl := hwt.length
    have hsl := splitL_length q
    refine lcomp (cl := [(("curdir" : PySem.Str), ca)]) hh heC (by rw [hcC]; rfl) (by rfl) (fun i F ys => TxL oct (((splitL q).take i).filter keepL) ys) (fun _ _ _ _ l h => h) (ld' S12 heC rfl ?_)
    refine ⟨_, _, _, _, _, S12, itList hh (hws.le hle), by omega, .nil, ?_, ?_⟩
    · intro cenv2 i2 v2 I2 K2 D3 m2 F2 ys3 s3 heC2 hcC2 hi2 hv2 hle2 hJ3 hys3 S3
      refine wpAny_assign_Name (st' S3 heC2 fun s4 S4 => wpAny_tests_one ?_)
      obtain ⟨p2, t2, hp2, hvp2⟩ := hwt.get i2 (by omega)
      rw [hv2] at hvp2; cases hvp2
      have hmem : p2 ∈ splitL q := List.mem_of_getElem? hp2
      have hbp : Byt p2 := hbq.sub (splitL_mem hmem)
      have hzp : p2.length ≤ 500 := Nat.le_trans (splitL_len hmem) hzq
      have hcur2 : ∀ {s : Shared} {mu : Mu}, St0 (cx H F' s12) F2 mu s → s.heap.IsCell ca (some (tx oct [46] tc)) := fun S => oldCell S hcur
      have fin : ∀ {s5 : Shared} {m5 : PySem.Str → Option Value} {pos : Pos} (ok : Bool), ok = keepL p2 → m5 "c" = some (tx oct p2 t2) → St (cx H F' s12) F2 cenv2.locals m5 [(I2, K2), (D3, lst ys3)] s5 →
          if ok = true then wpAny (model prog w) (A.deeper env) (eval (.Name "c" pos) cenv2) (fun y s₄ => ∃ m' F'', F2.Le F'' ∧ St (cx H F' s12) F'' cenv2.locals m' [(I2, K2), (D3, lst ys3)] s₄ ∧ TxL oct (((splitL q).take (i2 + 1)).filter keepL) (ys3 ++ [y])) NE s5
          else ∃ m' F'', F2.Le F'' ∧ St (cx H F' s12) F'' cenv2.locals m' [(I2, K2), (D3, lst ys3)] s5 ∧ TxL oct (((splitL q).take (i2 + 1)).filter keepL) ys3 := by
        intro s5 m5 pos ok hok hm5 S5
        subst hok
        rw [take_snoc hp2, List.filter_append]
        cases hk : keepL p2 with
        | true =>
          rw [if_pos rfl]
          refine ld' S5 heC2 hm5 ⟨_, F2, .refl _, S5, ?_⟩
          rw [List.filter_cons_of_pos hk]
          exact hJ3.snoc ⟨t2, rfl⟩
        | false =>
          rw [if_neg Bool.false_ne_true]
          refine ⟨_, F2, .refl _, S5, ?_⟩
          rw [List.filter_cons_of_neg (by rw [hk]; exact Bool.false_ne_true)]
          simpa using hJ3
      refine isTrue_and (wpAny_isTrue_value (ld' S4 heC2 rfl (truthT S4 (by omega) fun s5 S5 => ?_)))
      by_cases h1 : p2 = []
      · have e1 : decide (p2 ≠ []) = false := by simp [h1]
        rw [e1, if_neg Bool.false_ne_true]
        exact fin false (by rw [keepL, e1]; rfl) rfl S5
      · have e1 : decide (p2 ≠ []) = true := by simp [h1]
        rw [e1, if_pos rfl]
        refine isTrue_and (wpAny_isTrue_Compare1 (ld' S5 heC2 rfl (ldc' heC2 (by rw [hcC2]; rfl) (hcur2 S5) (neT hbp (by intro c hc; simp at hc; subst hc; decide) (wpAny_truthy_bool ?_)))))
        by_cases h2 : p2 = [46]
        · have e2 : decide (p2 ≠ [46]) = false := by simp [h2]
          rw [e2, if_neg Bool.false_ne_true]
          exact fin false (by rw [keepL, e1, e2]; rfl) rfl S5
        · have e2 : decide (p2 ≠ [46]) = true := by simp [h2]
          rw [e2, if_pos rfl]
          refine isTrue_and_nil ?_
          exact fin true (by rw [keepL, e1, e2]; rfl) rfl S5
    intro D3 F2 ys3 s3 hle2 S3 hD3 hJ3 hlen3
    refine ⟨_, F2, hle2, S3, ?_⟩
    rw [take_snoc hq, List.map_append]
    refine (hJ2.le hle2).snoc ⟨ys3, hD3, ?_⟩
    have : (splitL q).take ws.length = splitL q := List.take_of_length_le (by omega)
    rw [this] at hJ3
    exact hJ3
  intro D2 F₅ ys2 s12 hle₅ S12 hD2 hJ2 hlen2
  refine ⟨rfl, ?_⟩
  -- s1, s2
  obtain ⟨m12, hs12, hi12, S12⟩ : ∃ m12, m12 "split_paths" = some (.ref D2) ∧ m12 "isabs" = some (.bool (startsL a)) ∧ St (cx H F s) F₅ env.locals m12 [(ca, cellIs (some (tx oct [46] tc))), (sa, cellIs (some (tx oct [47] ts)))] s12 := ⟨_, rfl, hi11, S12⟩
  rw [hl2] at hJ2 hlen2
  have hJ2 : SLs oct F₅ [namesL a, namesL b] ys2 := hJ2
  obtain ⟨va, vb, rfl⟩ : ∃ va vb, ys2 = [va, vb] := by
    have hlen := hJ2.length
    match ys2, hlen with
    | [va, vb], _ => exact ⟨va, vb, rfl⟩
  obtain ⟨wa, hwa, hta⟩ : ∃ ws, SList F₅ va ws ∧ TxL oct (namesL a) ws := by cases hJ2 with | cons h _ => exact h
  obtain ⟨wb, hwb, htb⟩ : ∃ ws, SList F₅ vb ws ∧ TxL oct (namesL b) ws := by cases hJ2 with | cons _ r => cases r with | cons h _ => exact h
  have hba := namesL_byt ha
  have hbb := namesL_byt hb
  have hu : (A.deeper env).in1.units < cLine := (hr'.le (by omega : 2 ≤ 15)).in1.c
  have row : ∀ (i : Nat) (v : Value), i < 2 → [va, vb][i]? = some v → ∃ ws, SList F₅ v ws ∧ TxL oct (if i = 0 then namesL a else namesL b) ws := by
    intro i v hi hv
    match i, hi with
    | 0, _ => cases hv; exact ⟨wa, hwa, hta⟩
    | 1, _ => cases hv; exact ⟨wb, hwb, htb⟩
  have rowb : ∀ i, ∀ p ∈ (if i = 0 then namesL a else namesL b), Byt p := by
    intro i; split
    · exact hba
    · exact hbb
  have cmp : ∀ (gt : Bool) i j vi vj (s : Shared) (Q : Value → Shared → Prop) (E : Value → Shared → Prop), i < 2 → j < 2 → F₅.In s.heap → [va, vb][i]? = some vi → [va, vb][j]? = some vj →
      Q (.bool (lexG gt (if i = 0 then namesL a else namesL b) (if j = 0 then namesL a else namesL b))) s → wpAny (model prog w) (A.deeper env).in1 (richCompare (cop gt) vi vj) Q E s := by
    intro gt i j vi vj s Q E hi hj hF h1 h2 hq
    obtain ⟨w1, hl1, ht1⟩ := row i vi hi h1
    obtain ⟨w2, hl2, ht2⟩ := row j vj hj h2
    obtain ⟨l1, o1, rfl, _⟩ := id hl1
    obtain ⟨l2, o2, rfl, _⟩ := id hl2
    exact ltLists (hl1.isList hF) (hl2.isList hF) ht1 ht2 (rowb i) (rowb j) hu prog w E Q hq
  refine execsNext (wpAny_Assign_Name (cB1 (fun _ h => ldB S12 B G he h) (ld' S12 he hs12 (minS S12 (itList (show (A.deeper env).in1.handled = none from hh) hD2) (by simp) (fun i j => lexG false (if i = 0 then namesL a else namesL b) (if j = 0 then namesL a else namesL b)) (fun i j vi vj s Q E hi hj => cmp false i j vi vj s Q E hi hj) fun v1 s13 hv1 S13 => st' S13 he fun s14 S14 => ⟨rfl, ?_⟩))))
  refine execsNext (wpAny_Assign_Name (cB1 (fun _ h => ldB S14 B G he h) (ld' S14 he hs12 (maxS S14 (itList (show (A.deeper env).in1.handled = none from hh) hD2) (by simp) (fun i j => lexG true (if i = 0 then namesL a else namesL b) (if j = 0 then namesL a else namesL b)) (fun i j vi vj s Q E hi hj => cmp true i j vi vj s Q E hi hj) fun v2 s15 hv2 S15 => st' S15 he fun s16 S16 => ⟨rfl, ?_⟩))))
  obtain ⟨w1, hw1, ht1⟩ : ∃ ws, SList F₅ v1 ws ∧ TxL oct (lowL (namesL a) (namesL b)) ws := by
    have e : argBest (fun i j => lexG false (if i = 0 then namesL a else namesL b) (if j = 0 then namesL a else namesL b)) ([va, vb].length - 1) = if lexL (namesL b) (namesL a) = true then 1 else 0 := rfl
    rw [e] at hv1
    unfold lowL
    by_cases hx : lexL (namesL b) (namesL a) = true
    · rw [if_pos hx] at hv1 ⊢; cases hv1; exact ⟨wb, hwb, htb⟩
    · rw [if_neg hx] at hv1 ⊢; cases hv1; exact ⟨wa, hwa, hta⟩
  obtain ⟨w2, hw2, ht2⟩ : ∃ ws, SList F₅ v2 ws ∧ TxL oct (highL (namesL a) (namesL b)) ws := by
    have e : argBest (fun i j => lexG true (if i = 0 then namesL a else namesL b) (if j = 0 then namesL a else namesL b)) ([va, vb].length - 1) = if lexL (namesL a) (namesL b) = true then 1 else 0 := rfl
    rw [e] at hv2
    unfold highL
    by_cases hx : lexL (namesL a) (namesL b) = true
    · rw [if_pos hx] at hv2 ⊢; cases hv2; exact ⟨wb, hwb, htb⟩
    · rw [if_neg hx] at hv2 ⊢; cases hv2; exact ⟨wa, hwa, hta⟩
  have hlow : lexL (highL (namesL a) (namesL b)) (lowL (namesL a) (namesL b)) = false := low_high _ _
  have hlcp := low_high_lcp (namesL a) (namesL b)
  have hlb : ∀ p ∈ lowL (namesL a) (namesL b), Byt p := by unfold lowL; split; exact hbb; exact hba
  have hhb : ∀ p ∈ highL (namesL a) (namesL b), Byt p := by unfold highL; split; exact hbb; exact hba
  have hzn : ∀ (q : T), q.length ≤ 500 → ∀ p ∈ namesL q, p.length ≤ 500 := fun q hq p hp => Nat.le_trans (splitL_len (List.mem_filter.mp hp).1) hq
  have hlz : ∀ p ∈ lowL (namesL a) (namesL b), p.length ≤ 500 := by unfold lowL; split; exact hzn b hzb; exact hzn a hza
  have hln : (lowL (namesL a) (namesL b)).length ≤ 501 := by
    unfold lowL; split
    · exact Nat.le_trans namesL_len (by omega)
    · exact Nat.le_trans namesL_len (by omega)
  have hhn : (highL (namesL a) (namesL b)).length ≤ 501 := by
    unfold highL; split
    · exact Nat.le_trans namesL_len (by omega)
    · exact Nat.le_trans namesL_len (by omega)
  generalize hR1 : lowL (namesL a) (namesL b) = R1 at ht1 hlow hlcp hlb hlz hln
  generalize hR2 : highL (namesL a) (namesL b) = R2 at ht2 hlow hlcp hhb hhn
  -- common
  refine execsNext (wpAny_Assign_Name (ld' S16 he rfl (st' S16 he fun s17 S17 => ⟨rfl, ?_⟩)))
  obtain ⟨m17, h1s, h2s, hcs, his, S18⟩ : ∃ m17, m17 "s1" = some v1 ∧ m17 "s2" = some v2 ∧ m17 "common" = some v1 ∧ m17 "isabs" = some (.bool (startsL a)) ∧ St (cx H F s) F₅ env.locals m17 [(ca, cellIs (some (tx oct [46] tc))), (sa, cellIs (some (tx oct [47] ts)))] s17 := ⟨_, rfl, rfl, rfl, hi12, S17⟩
  obtain ⟨l1, o1, rfl, _⟩ := id hw1
  have hl1 := ht1.length
  have hl2' := ht2.length
  refine execsNext (wpAny_mono (Q := fun f s' => f = .next ∧ ∃ m F' vc wc, St (cx H F s) F' env.locals m [(ca, cellIs (some (tx oct [46] tc))), (sa, cellIs (some (tx oct [47] ts)))] s' ∧ m "common" = some (.ref vc) ∧ SList F' (.ref vc) wc ∧ TxL oct (lcpL (namesL a) (namesL b)) wc ∧ m "isabs" = some (.bool (startsL a))) ?_ (fun fl s18 hq => ?_) fun _ _ e => e)
  · refine forEnumS hh (by rfl) (by rfl) (fun i F m mu => mu = [(ca, cellIs (some (tx oct [46] tc))), (sa, cellIs (some (tx oct [47] ts)))] ∧ m "s1" = some (.ref l1) ∧ m "s2" = some v2 ∧ m "common" = some (.ref l1) ∧ m "isabs" = some (.bool (startsL a)) ∧ R1.take i = R2.take i ∧ i ≤ R2.length)
      (cT1 (fun _ h => ldB S18 B G he h) (ld' S18 he h1s (enumS S18 hw1 fun e it s19 S19 => ?_)))
    refine ⟨_, _, _, _, e, it, l1, w1, rfl, S19.rot, hw1, ⟨rfl, h1s, h2s, hcs, his, rfl, Nat.zero_le _⟩, ?_, ?_⟩
    · rintro i x t m F' mu' s' hx hle ⟨rfl, k1, k2, k3, k4, k5, k6⟩ S'
      have hi1 : i < w1.length := (List.getElem?_eq_some_iff.mp hx).1
      obtain ⟨p1, t1', hp1, hx1⟩ := ht1.get i (by omega)
      rw [hx] at hx1; cases hx1
      have hi2 : i < R2.length := lexL_goes R1 R2 i hlow k5 (by omega) k6
      obtain ⟨p2, t2', hp2, hx2⟩ := ht2.get i hi2
      refine assign2 (wpAny_assign_Name (st' S' he fun s20 S20 => wpAny_assign_Name (st' S20 he fun s21 S21 => ?_)))
      refine wpAny_execs_cons (wpAny_If (wpAny_isTrue_Compare1 (ld' S21 he rfl (subS (ld' S21 he k2 (ld' S21 he rfl ⟨_, _, _, _, _, i, t, S21, hw2.le hle, rfl, by omega, hx2, neT (hlb p1 (List.mem_of_getElem? hp1)) (hhb p2 (List.mem_of_getElem? hp2)) (wpAny_truthy_bool ?_)⟩))))))
      by_cases hpp : p1 = p2
      · have e1 : decide (p1 ≠ p2) = false := by simp [hpp]
        rw [e1, if_neg Bool.false_ne_true]
        refine wpAny_execs_nil (wpAny_execs_nil ⟨_, F', _, .refl _, S21, rfl, k1, k2, k3, k4, ?_, hi2⟩)
        rw [take_snoc hp1, take_snoc hp2, k5, hpp]
      · have e1 : decide (p1 ≠ p2) = true := by simp [hpp]
        rw [e1, if_pos rfl]
        refine execsNext (wpAny_Assign_Name (sliceL (ld' S21 he k1 (evalPart_none_step (evalPart_some_step (ld' S21 he rfl ⟨_, _, _, w1, none, some i, S21, hw1.le hle, by omega, .none, .int _ _, fun ac F'' s22 hle2 S22 hac => ?_⟩))))))
        refine st' S22 he fun s23 S23 => ⟨rfl, ?_⟩
        refine wpAny_execs_cons (fun _ _ _ => ?_)
        refine ⟨rfl, _, F'', ac, _, S23.drop2.drop2, rfl, hac, ?_, k4⟩
        have e2 : cutL w1 none (some i) = w1.take i := by simp [cutL]
        rw [e2, ← hlcp, lcpL_part R1 R2 i k5 (by omega) (by omega) (by rw [hp1, hp2]; simpa using hpp)]
        exact ht1.take i
    · rintro F' m mu' s' hle ⟨rfl, k1, k2, k3, k4, k5, k6⟩ S'
      refine ⟨rfl, m, F', l1, w1, S', k3, hw1.le hle, ?_, k4⟩
      rw [hl1.symm] at k5 k6
      have e : lcpL R1 R2 = R1 := lcpL_pre R1 R2 k6 (by rw [← k5, List.take_length])
      rw [← hlcp, e]
      exact ht1
  obtain ⟨rfl, m, F', vc, wc, S18, hcm, hvc, hwc, his2⟩ := hq
  refine ⟨rfl, ?_⟩
  have hsep : ∀ {s' : Shared} {m' : PySem.Str → Option Value}, St (cx H F s) F' env.locals m' [(ca, cellIs (some (tx oct [46] tc))), (sa, cellIs (some (tx oct [47] ts)))] s' → s'.heap.IsCell sa (some (tx oct [47] ts)) := fun S => S.cell (by simp)
  have hcl : env.cells.lookup ("sep" : PySem.Str) = some sa := by rw [ec]; rfl
  -- prefix
  refine execsNext (wpAny_mono (Q := fun f s' => f = .next ∧ ∃ t', St (cx H F s) F' env.locals (upd m "prefix" (tx oct (if startsL a then [47] else []) t')) [(ca, cellIs (some (tx oct [46] tc))), (sa, cellIs (some (tx oct [47] ts)))] s') ?_ (fun fl s19 hq => ?_) fun _ _ e => e)
  · refine wpAny_Assign_Name (wpAny_IfExp (wpAny_isTrue_value (ld' S18 he his2 (wpAny_truthy_bool ?_))))
    by_cases hst2 : startsL a = true
    · rw [if_pos hst2]
      refine ldc' he hcl (hsep S18) (st' S18 he fun s19 S19 => ⟨rfl, ts, ?_⟩)
      rw [if_pos hst2]; exact S19
    · rw [if_neg hst2]
      refine cutT (ldc' he hcl (hsep S18) ⟨_, _, rfl, by simp, constI S18 fun s19 t19 S19 => ⟨0, _, _, _, _, rfl, by simp, S19, fun s20 t20 S20 => st' S20 he fun s21 S21 => ⟨rfl, t20, ?_⟩⟩⟩)
      rw [if_neg hst2]; exact S21
  obtain ⟨rfl, tp2, S19⟩ := hq
  refine ⟨rfl, ?_⟩
  -- return
  obtain ⟨oc, hoc⟩ : ∃ o, F' vc = some o := let ⟨a', o, e, h, _⟩ := hvc; by cases e; exact ⟨o, h⟩
  have hlcl := lcpL_le_l (namesL a) (namesL b)
  have hlmem : ∀ p ∈ lcpL (namesL a) (namesL b), p.length ≤ 500 := fun p hp => by
    rw [lcpL_take] at hp
    exact hzn a hza p (List.mem_of_mem_take hp)
  have hnl := namesL_len (l := a)
  refine wpAny_execs_cons (wpAny_Return_some (wpAny_BinOp (ld' S19 he rfl (mcall1 mf_join (ldc' he hcl (hsep S19) ⟨_, _, rfl, ld' S19 he hcm (joinT S19 (hvc.isList S19.inn) hwc (fun p hp => by have := hlmem p hp; omega) (by omega) fun s20 t20 S20 => ?_)⟩)))))
  have hjl : (joinL (lcpL (namesL a) (namesL b))).length ≤ 501 * 501 := by
    have h1 := joinL_len (lcpL (namesL a) (namesL b)) 500 hlmem
    have h2 : (lcpL (namesL a) (namesL b)).length * (500 + 1) ≤ 501 * 501 := Nat.mul_le_mul_right _ (by omega)
    omega
  refine addT S20 (by split <;> simp <;> omega) fun s21 t21 S21 => ⟨_, _, S21, t21, rfl⟩
end
end Mine
end

section
/-! M20: ints: //, %, *, chr, sum. -/
set_option maxRecDepth 100000
set_option maxHeartbeats 4000000
namespace Mine
open PySem PySem.Calls PyProof.Rows PySem.W PySem.Builtin

section
variable {prog : Program} {w : World} {A : Around} {E : Value → Shared → Prop} {c : Cx} {F : Fz} {mu : Mu} {s : Shared} {Q : Value → Shared → Prop} {a b : Int} {t u : Tok} {env : Env}

theorem fdivI (hb : b = 8 ∨ b = 2) (S : St0 c F mu s) (h : ∀ s' t, St0 c F mu s' → Q (.int (a.fdiv b) t) s') : wpAny (model prog w) A (binaryOp .FloorDiv (.int a t) (.int b u)) Q E s := by
  refine AutoIntOps.floordiv_1 (by rcases hb with rfl | rfl <;> decide) ?_ (h _ _ (S.tok _))
  have hd : ((if b == 0 then 0 else b.natAbs.log2 / 30 + 1 : Nat) > 300) = False := by rcases hb with rfl | rfl <;> simp <;> decide
  unfold Builtin.divisionGoesByPylong
  simp only [hd, decide_false, Bool.false_and]
  exact Bool.false_ne_true
theorem modI (hb : b ≠ 0) (S : St0 c F mu s) (h : ∀ s' t, St0 c F mu s' → Q (.int (a.fmod b) t) s') : wpAny (model prog w) A (binaryOp .Mod (.int a t) (.int b u)) Q E s :=
  PyProof.Rows.mod_int hb (h _ _ (S.tok _))
theorem mul2I (S : St0 c F mu s) (h : ∀ s' t, St0 c F mu s' → Q (.int (2 * b) t) s') : wpAny (model prog w) A (binaryOp .Mult (.int 2 t) (.int b u)) Q E s :=
  P.mul_int (h _ _ (S.tok _)) (IntMulOk.of_left (by decide))
theorem chrI (h0 : 0 ≤ a) (h1 : a < 256) (S : St0 c F mu s) (h : ∀ s' t, St0 c F mu s' → Q (tx false [a.toNat] t) s') : wpAny (model prog w) A (call (.builtin "chr") [.int a t]) Q E s :=
  P.chr_of_int (by simp; omega) (h _ _ (S.tok _))
theorem sumS {l : Addr} {vs : List Value} {ns : List Int} (hh : A.handled = none) (S : St0 c F mu s) (hl : SList F (.ref l) vs) (hi : IntsAre vs ns) (h : ∀ s' t, St0 c F mu s' → Q (.int ns.sum t) s') :
    wpAny (model prog w) A (call (.builtin "sum") [.ref l]) Q E s := by
  obtain ⟨xs, hx⟩ := hi.allInts.items
  have hn : numsOf vs.toArray.toList = ns := by rw [show vs.toArray.toList = vs from rfl, hi.numsOf]
  have hl' := hl.isList S.inn
  rw [hx] at hl' hn
  rw [nums_intItems] at hn
  refine sum_intListG hh hl' fun h' tk t' hk => ?_
  have := h { s with heap := h', toks := tk } t' (S.keep hk rfl rfl)
  rw [preSum_eq, List.take_of_length_le (by simp), hn]
  exact this
theorem constL {M : Model} {b : PySem.Str} {k : Nat} {pos : Pos} (l : T) (S : St0 c F mu s) (h : ∀ s' t, St0 c F mu s' → Q (tx false l t) s') (hb : b = us l := by kernel_rfl) : wpAny M A (eval (.Constant (.str b) k pos) env) Q E s := by
  subst hb
  exact constT S fun s' t S' => by rw [us_toList]; exact h s' t S'
end
end Mine
end

section
/-! F6: _law_piece. -/
set_option maxRecDepth 100000
set_option maxHeartbeats 4000000
namespace Mine
open PySem PySem.Calls PyProof.Rows PySem.W PySem.Builtin

structure Piece (p : T) : Prop where
  byt : Byt p
  free : 47 ∉ p
  short : p.length ≤ 2

def pieceB (p : T) : Bool := p.all (fun c => decide (c < 256) && c != 47) && decide (p.length ≤ 2)
theorem piece_of {p : T} (h : pieceB p = true) : Piece p := by
  unfold pieceB at h
  rw [Bool.and_eq_true, decide_eq_true_eq, List.all_eq_true] at h
  refine ⟨fun c hc => ?_, fun hc => ?_, h.2⟩
  · have := h.1 c hc
    simp at this; exact this.1
  · have := h.1 47 hc
    simp at this
theorem fmod_range (a b : Int) (hb : 0 < b) : 0 ≤ a.fmod b ∧ a.fmod b < b := ⟨Int.fmod_nonneg_of_pos a hb, Int.fmod_lt_of_pos a hb⟩

section
variable {prog : Program} {w : World} {A : Around} {H : Heap} {mg mb : PySem.Str → Option Value} {F : Fz} {s : Shared} {f : Addr} {fd : FuncData} {c : Cx} {mu : Mu} {Q : Value → Shared → Prop} {E : Value → Shared → Prop}

theorem mulDot {n : Nat} {t u : Tok} (S : St0 c F mu s) (hn : n ≤ 1) (h : ∀ s' t', St0 c F mu s' → Q (tx false (List.replicate n 46) t') s') :
    wpAny (model prog w) A (binaryOp .Mult (tx false [46] t) (.int n u)) Q E s := by
  refine SB.mul (x := us [46]) (mulOk_of 1 100000 (by rw [us_length]; exact Nat.le_refl 1) (by omega) (by omega) (by decide) (by decide)) fun t' k => ?_
  have e : Txt.mul (us [46]) (n : Int) = us (List.replicate n 46) := by
    have : n = 0 ∨ n = 1 := by omega
    rcases this with rfl | rfl <;> rfl
  rw [e]; exact h _ _ (S.tok _)

theorem pieceC (B : Bs H mg mb) (G : Gl mg) (X : FnAt H mg "_law_piece" (nth 18) f fd) (p : Pre H F s) (hr : Rm A 2) (x : Int) (t : Tok) :
    codeAny (model prog w) A (.call (.ref f) ⟨[.int x t], []⟩) (Res s F fun _ v => ∃ p t', v = tx false p t' ∧ Piece p) s := by
  refine enter B X p hr (binds := [("x", .int x t)]) (X.binds fun _ _ _ _ _ _ _ _ _ _ _ _ => rfl) fun env s₁ he S hr' => ?_
  refine execsNext (wpAny_Assign_Name (wpAny_BinOp (ld' S he rfl (constI S fun s₂ t2 S₂ => fdivI (.inl rfl) S₂ fun s₃ t3 S₃ => st' S₃ he fun s₄ S₄ => ⟨rfl, ?_⟩))))
  generalize hw : x.fdiv 8 = word at S₄
  obtain ⟨r1, r2⟩ := fmod_range word 256 (by decide)
  refine execsNext (wpAny_Assign_Name (cB1 (fun _ h => ldB S₄ B G he h) (wpAny_BinOp (ld' S₄ he rfl (constI S₄ fun s₅ t5 S₅ => modI (by decide) S₅ fun s₆ t6 S₆ => chrI r1 r2 S₆ fun s₇ t7 S₇ => st' S₇ he fun s₈ S₈ => ⟨rfl, ?_⟩)))))
  generalize hsg : (word.fmod 256).toNat = sg at S₈
  have hsg2 : sg < 256 := by omega
  obtain ⟨tw, tg, m8, hmw, hms, hmx, S9⟩ : ∃ tw tg m8, m8 "word" = some (.int word tw) ∧ m8 "sign" = some (tx false [sg] tg) ∧ m8 "x" = some (.int x t) ∧ St (cx H F s) F env.locals m8 [] s₈ := ⟨_, _, _, rfl, rfl, rfl, S₈⟩
  have hsb : Byt [sg] := fun c hc => by rw [List.mem_singleton.mp hc]; exact hsg2
  refine wpAny_execs_cons ?_
  refine wpAny_Return_some ?_
  refine subTup ?_
  refine Tuple_ ?_
  refine args_cons ?_
  refine constL [97] S9 fun s1 t1 S1 => ?_
  refine args_cons ?_
  refine constL [97] S1 fun s2 t2 S2 => ?_
  refine args_cons ?_
  refine constL [98] S2 fun s3 t3 S3 => ?_
  refine args_cons ?_
  refine constL [97, 45] S3 fun s4 t4 S4 => ?_
  refine args_cons ?_
  refine constL [46, 46] S4 fun s5 t5 S5 => ?_
  refine args_cons ?_
  refine constL [97, 98] S5 fun s6 t6 S6 => ?_
  refine args_cons (wpAny_mono (Q := fun v s' => (∃ p t, v = tx false p t ∧ Piece p) ∧ St (cx H F s) F env.locals m8 [] s') ?_ (fun v7 s7 hq => ?_) fun _ _ e => e)
  · refine wpAny_BinOp (constL [97] S6 fun s7 t7 S7 => wpAny_IfExp (wpAny_isTrue_Compare1 (ld' S7 he hms (constL [47] S7 fun s8 t8 S8 => eqT hsb byt47 (wpAny_truthy_bool ?_)))))
    by_cases h47 : sg = 47
    · have e : decide ([sg] = [47]) = true := by simp [h47]
      rw [e, if_pos rfl]
      refine constL [99] S8 fun s9 t9 S9 => addT S9 (by show 1 + 1 ≤ 1000000; decide) fun s10 t10 S10 => ⟨⟨_, _, rfl, ?_⟩, S10⟩
      exact piece_of (by rfl)
    · have e : decide ([sg] = [47]) = false := by simp [h47]
      rw [e, if_neg Bool.false_ne_true]
      refine ld' S8 he hms (addT S8 (by show 1 + 1 ≤ 1000000; decide) fun s10 t10 S10 => ⟨⟨_, _, rfl, ?_⟩, S10⟩)
      refine piece_of ?_
      show pieceB [97, sg] = true
      simp [pieceB, hsg2, h47]
  obtain ⟨⟨p7, u7, rfl, hp7⟩, S7⟩ := hq
  obtain ⟨g1, g2⟩ := fmod_range word 2 (by decide)
  refine args_cons (wpAny_BinOp (constL [46] S7 fun s8 t8 S8 => wpAny_BinOp (ld' S8 he hmw (constI S8 fun s9 t9 S9 => modI (by decide) S9 fun s10 t10 S10 => ?_))))
  obtain ⟨n, hn⟩ : ∃ n : Nat, word.fmod 2 = (n : Int) := ⟨(word.fmod 2).toNat, by omega⟩
  have hn1 : n ≤ 1 := by omega
  rw [hn]
  refine mulDot S10 hn1 fun s11 t11 S11 => args_nil (newTupleS S11 (by simp) fun tp F₁ s12 hle S12 _ htp => ?_)
  refine wpAny_BinOp (ld' S12 he hmx (constI S12 fun s13 t13 S13 => modI (by decide) S13 fun s14 t14 S14 => ?_))
  obtain ⟨q1, q2⟩ := fmod_range x 8 (by decide)
  obtain ⟨k, hk⟩ : ∃ k : Nat, x.fmod 8 = (k : Int) := ⟨(x.fmod 8).toNat, by omega⟩
  have hk8 : k < 8 := by omega
  rw [hk]
  have hp8 : Piece (List.replicate n 46) := by
    have : n = 0 ∨ n = 1 := by omega
    rcases this with rfl | rfl
    · exact piece_of (by rfl)
    · exact piece_of (by rfl)
  match k, hk8 with
  | 0, _ => exact ⟨_, _, _, _, _, 0, t14, S14, htp, rfl, by omega, rfl, _, _, _, _, S14, _, _, rfl, piece_of (by rfl)⟩
  | 1, _ => exact ⟨_, _, _, _, _, 1, t14, S14, htp, rfl, by omega, rfl, _, _, _, _, S14, _, _, rfl, piece_of (by rfl)⟩
  | 2, _ => exact ⟨_, _, _, _, _, 2, t14, S14, htp, rfl, by omega, rfl, _, _, _, _, S14, _, _, rfl, piece_of (by rfl)⟩
  | 3, _ => exact ⟨_, _, _, _, _, 3, t14, S14, htp, rfl, by omega, rfl, _, _, _, _, S14, _, _, rfl, piece_of (by rfl)⟩
  | 4, _ => exact ⟨_, _, _, _, _, 4, t14, S14, htp, rfl, by omega, rfl, _, _, _, _, S14, _, _, rfl, piece_of (by rfl)⟩
  | 5, _ => exact ⟨_, _, _, _, _, 5, t14, S14, htp, rfl, by omega, rfl, _, _, _, _, S14, _, _, rfl, piece_of (by rfl)⟩
  | 6, _ => exact ⟨_, _, _, _, _, 6, t14, S14, htp, rfl, by omega, rfl, _, _, _, _, S14, _, _, rfl, hp7⟩
  | 7, _ => exact ⟨_, _, _, _, _, 7, t14, S14, htp, rfl, by omega, rfl, _, _, _, _, S14, _, _, rfl, hp8⟩
end
end Mine
end

section
/-! M21: list comprehensions whose elements stay open; ledgers of lists. -/
set_option maxRecDepth 100000
set_option maxHeartbeats 4000000
namespace Mine
open PySem PySem.Calls PyProof.Rows PySem.W PySem.Builtin

theorem St0.merge {c₁ : Cx} {F₁ F' : Fz} {mu₁ : Mu} {s₁ s' : Shared} (S₁ : St0 c₁ F₁ mu₁ s₁) : ∀ (ex : Mu), St0 (cx c₁.base F₁ s₁) F' ex s' → St0 c₁ F' (ex ++ mu₁) s' := by
  intro ex T
  have Z := S₁.after (S₁.pre.out T)
  have key : ∀ (l : Mu), (∀ p ∈ l, p ∈ ex) → (l.map (·.1)).Nodup → St0 c₁ F' (l ++ mu₁) s' := by
    intro l
    induction l with
    | nil => intro _ _; exact Z
    | cons p r ih =>
      intro hl hn
      obtain ⟨h1, h2⟩ := List.nodup_cons.mp hn
      have hp := hl p (List.mem_cons_self)
      have fr := T.fr p hp
      have hs₁ : s₁.heap.get? p.1 = none := fr.2
      have f := S₁.fresh_ne hs₁
      refine St0.cons (a := p.1) (P := p.2) (ih (fun q hq => hl q (.tail _ hq)) h2) fr.1 f.2.1 (fun q hq => ?_) (T.at' p hp)
      rcases List.mem_append.mp hq with hq | hq
      · exact fun e => h1 (List.mem_map.mpr ⟨q, hq, e⟩)
      · exact f.2.2 q hq
  exact key ex (fun _ h => h) T.nd

section
variable {prog : Program} {w : World} {A : Around} {c : Cx} {F : Fz} {mu : Mu} {s : Shared} {env : Env} {sc : Scope}

theorem lcompCoreX {elt target iter : Expr} {ifs : List Expr} {scope sc : Scope} {pos p0 : Pos} {env : Env} {cl : List (PySem.Str × Addr)} {use : Option (Value → Sem Unit)} {Q : Value → Shared → Prop} {E : Value → Shared → Prop}
    (he : EnvOk env sc) (hcl : closL scope.names env.cells [] = some cl) (hsc : compNames scope = true)
    (J : Nat → Fz → List Value → Mu → Prop)
    (hit : wpAny (model prog w) A (eval iter env) (fun x s₁ => ∃ c₁ F₁ mu₁ n item, St0 c₁ F₁ mu₁ s₁ ∧ ItOf prog w A F₁ x n item ∧ n ≤ 2 ^ 20 ∧ J 0 F₁ [] [] ∧
      (∀ cenv i v I K D m F' ys ex s', EnvOk cenv (relab scope sc) → cenv.cells = cl → i < n → item i v → F₁.Le F' → J i F' ys ex → ys.length ≤ i →
        St (cx c₁.base F₁ s₁) F' cenv.locals m ((I, K) :: (D, lst ys) :: ex) s' →
        wpAny (model prog w) A (assign target cenv v) (fun _ s₂ =>
          wpAny (model prog w) A (forIn ifs true fun c r => if r = true then do let ok ← isTrue c cenv (eval c cenv); pure (ForInStep.yield ok) else pure (ForInStep.yield r)) (fun ok s₃ =>
            if ok = true then wpAny (model prog w) A (eval elt cenv) (fun y s₄ => ∃ m' F'' ex', F'.Le F'' ∧ St (cx c₁.base F₁ s₁) F'' cenv.locals m' ((I, K) :: (D, lst ys) :: ex') s₄ ∧ J (i + 1) F'' (ys ++ [y]) ex') NE s₃
            else ∃ m' F'' ex', F'.Le F'' ∧ St (cx c₁.base F₁ s₁) F'' cenv.locals m' ((I, K) :: (D, lst ys) :: ex') s₃ ∧ J (i + 1) F'' ys ex') NE s₂) NE s') ∧
      (∀ C D F₂ F' m ys ex s', F₁.Le F₂ → F₂.Le F' → St0 c₁ F' ((C, nsIs m) :: (ex ++ mu₁)) s' → SList F' (.ref D) ys → J n F₂ ys ex → ys.length ≤ n →
        match use with
        | none => ∀ s'', St0 c₁ F' (ex ++ mu₁) s'' → Q (.ref D) s''
        | some u => wpAny (model prog w) A (u (.ref D)) (fun _ s₂ => ∃ c₂ F₂ mu₂ m₂, St0 c₂ F₂ ((C, nsIs m₂) :: mu₂) s₂ ∧ ∀ s'', St0 c₂ F₂ mu₂ s'' → Q .none s'') E s')) E s)
    (hs : ∀ x, foldedSetIterable iter env x = pure x := by intro _; rfl) :
    wpAny (model prog w) A (comprehension (.ListComp elt [⟨target, iter, ifs, 0⟩] scope pos) scope env p0 (newList []) false (eval iter env) use) Q E s := by
  simp only [compNames, Bool.and_eq_true] at hsc
  obtain ⟨⟨hcell, hkind⟩, hnames⟩ := hsc
  have hkind' : scope.kind = .function := by simpa using hkind
  refine wpAny_comprehension_free (g := ⟨target, iter, ifs, 0⟩) (gs := []) rfl hs (closure_eq hcl) hkind' (fun x hx hl => ?_) (wpAny_mono hit (fun x s₁ hx => ?_) fun _ _ e => e)
  · have := List.all_eq_true.mp hnames x hx
    rw [hl] at this
    simpa using this
  obtain ⟨c₁, F₁, mu₁, n, item, S₁, hItOf, hn, hJ0, turn, fin⟩ := hx
  refine hItOf s₁ _ _ S₁.inn fun I K h₂ tk hI hk₂ hKI W => ?_
  have T₂ : St0 (cx c₁.base F₁ s₁) F₁ [(I, K 0)] { s₁ with heap := h₂, toks := tk } := S₁.pre.start.new_at hI hk₂ hKI rfl rfl
  refine newListS T₂ (Nat.zero_le _) fun D s₃ hD hsz₃ T₃ => ?_
  have hl : ∀ y ∈ ([] : List (PySem.Str × Value)), scope.names.lookup y.1 = some .local := fun _ hp => nomatch hp
  refine wpAny_newFunctionEnv (binds := []) (fun y hy => by simpa using List.all_eq_true.mp hcell y hy) hl (fun h₄ hns hsb => ?_) hkind'
  have hC : s₃.heap.get? s₃.heap.objs.size = none := get_none_size _
  have T₄ : St (cx c₁.base F₁ s₁) F₁ s₃.heap.objs.size (fun x => ([] : List (PySem.Str × Value)).reverse.lookup x) [(I, K 0), (D, lst [])] { s₃ with heap := h₄, toks := s₃.toks + ([] : List (PySem.Str × Value)).length } := by
    obtain ⟨o', es, ep, ho', h1, h2, h3⟩ := hns
    exact T₃.swap.new_at hC (fun b o e => hsb.extBut b o (Nat.ne_of_lt (Heap.lt_size e)) (Heap.get?_push_of_some _ e)) ⟨o', ho', es, ep, h1, h2, h3⟩ rfl rfl
  generalize hcenv : ({ (newEnv scope s₃.heap.objs.size env.globals cl env.qual none .none (some env) env.builtins) with scope := relabel scope env } : Env) = cenv
  have hcE : EnvOk cenv (relab scope sc) := by subst hcenv; exact ⟨relabel_eq he, he.globals, he.builtins⟩
  have hcc : cenv.cells = cl := by subst hcenv; rfl
  have hcL : cenv.locals = s₃.heap.objs.size := by subst hcenv; rfl
  have loop : ∀ s', (∃ m F', F₁.Le F' ∧ J 0 F' [] [] ∧ St (cx c₁.base F₁ s₁) F' cenv.locals m [(I, K 0), (D, lst [])] s') →
      codeAny (model prog w) A (.compLoop (.ListComp elt [⟨target, iter, ifs, 0⟩] scope pos) 0 (.ref I) (.ref D) cenv) (compPost (model prog w) A E use Q (.ref D) s₃.heap.objs.size) s' := by
    rintro s' ⟨m, F', hle, hJ0', T⟩
    refine compTests (fun k s' => ∃ i m F' ys ex, k = n - i ∧ i ≤ n ∧ ys.length ≤ i ∧ F₁.Le F' ∧ J i F' ys ex ∧ St (cx c₁.base F₁ s₁) F' cenv.locals m ((I, K i) :: (D, lst ys) :: ex) s') ?_ n
      ⟨0, m, F', [], [], rfl, Nat.zero_le _, Nat.le_refl _, hle, hJ0', T⟩
    rintro k s' ⟨i, m, F', ys, ex, rfl, hi, hys, hle, hJi, T⟩
    have TI := T.swap.hd
    by_cases hlt : i < n
    · refine W.next i hlt s' _ _ (hle.inn T.inn) TI fun v h' tk hv hk hK => ?_
      have T' : St (cx c₁.base F₁ s₁) F' cenv.locals m ((I, K (i + 1)) :: (D, lst ys) :: ex) { s' with heap := h', toks := tk } := (T.swap.upd (s' := { s' with heap := h', toks := tk }) hk hK rfl rfl).swap
      refine W.go (i + 1) target v _ _ _ T'.swap.hd ?_
      refine wpAny_mono (turn cenv i v I (K (i + 1)) D m F' ys ex _ hcE hcc hlt hv hle hJi hys T') (fun _ s₂ h₂ => wpAny_mono h₂ (fun ok s₃ h₃ => ?_) fun _ _ e => e.elim) fun _ _ e => e.elim
      cases ok with
      | false =>
        simp only [Bool.false_eq_true, if_false] at h₃ ⊢
        obtain ⟨m', F'', ex', hle', T'', hJ''⟩ := h₃
        exact ⟨n - (i + 1), by omega, i + 1, m', F'', ys, ex', rfl, hlt, by omega, hle.trans hle', hJ'', T''⟩
      | true =>
        simp only [if_true] at h₃ ⊢
        refine wpAny_mono h₃ (fun y s₄ h₄ => ?_) fun _ _ e => e.elim
        obtain ⟨m', F'', ex', hle', T'', hJ''⟩ := h₄
        refine appendS T''.rot (by show ys.length ≤ 2 ^ 24; omega) fun s₅ T₅ => ?_
        exact ⟨n - (i + 1), by omega, i + 1, m', F'', ys ++ [y], ex', rfl, hlt, by rw [List.length_append]; exact Nat.succ_le_succ hys, hle.trans hle', hJ'', T₅.rot.rot⟩
    · have hin : i = n := by omega
      subst hin
      refine W.fin s' _ _ (hle.inn T.inn) TI fun h' tk hk => ?_
      have T' : St (cx c₁.base F₁ s₁) F' cenv.locals m ((D, lst ys) :: ex) { s' with heap := h', toks := tk } := objGone (h' := h') (tk := tk) T.swap hk
      obtain ⟨o, hlo, hleD, hput, T''⟩ := T'.swap.freeze
      have Z' : St0 c₁ (F'.put D o) ((s₃.heap.objs.size, nsIs m) :: (ex ++ mu₁)) { s' with heap := h', toks := tk } := by
        have := S₁.merge _ T''
        rw [hcL] at this
        exact this
      have fin' := fin s₃.heap.objs.size D F' (F'.put D o) m ys ex _ hle hleD Z' ⟨D, o, rfl, hput, hlo⟩ hJi hys
      unfold compPost
      cases use with
      | none =>
        dsimp only at fin' ⊢
        exact ⟨m, St.ns Z', fun h'' hs'' => fin' _ (objGone (s := { s' with heap := h', toks := tk }) (h' := h'') (tk := tk) Z' fun b o hb e => (hs''.2 b hb).trans e)⟩
      | some u =>
        dsimp only at fin' ⊢
        refine wpAny_mono fin' (fun _ s₂ h₂ => ?_) fun _ _ e => e
        obtain ⟨c₂, F₂, mu₂, m₂, Z₂, hQ⟩ := h₂
        exact ⟨m₂, St.ns Z₂, fun h'' hs'' => hQ _ (objGone (h' := h'') (tk := s₂.toks) Z₂ fun b o hb e => (hs''.2 b hb).trans e)⟩
  have hstart : ∃ m F', F₁.Le F' ∧ J 0 F' [] [] ∧ St (cx c₁.base F₁ s₁) F' cenv.locals m [(I, K 0), (D, lst [])] { s₃ with heap := h₄, toks := s₃.toks + ([] : List (PySem.Str × Value)).length } := ⟨_, F₁, .refl _, hJ0, by rw [hcL]; exact T₄⟩
  have := codeAny_compStart_list (prog := prog) (w := w) (A := A) (elt := elt) (target := target) (iter := iter) (ifs := ifs) (rest := []) (scope := scope) (pos := pos) (env := cenv) (loop _ hstart)
    (W.self _ _ _ (T₄.inn) T₄.swap.hd (loop _ hstart))
  subst hcenv
  exact this

theorem lcompX {elt target iter : Expr} {ifs : List Expr} {scope : Scope} {pos : Pos} {cl : List (PySem.Str × Addr)} {Q : Value → Shared → Prop} {E : Value → Shared → Prop}
    (he : EnvOk env sc) (hcl : closL scope.names env.cells [] = some cl) (hsc : compNames scope = true)
    (J : Nat → Fz → List Value → Mu → Prop)
    (hit : wpAny (model prog w) A (eval iter env) (fun x s₁ => ∃ c₁ F₁ mu₁ n item, St0 c₁ F₁ mu₁ s₁ ∧ ItOf prog w A F₁ x n item ∧ n ≤ 2 ^ 20 ∧ J 0 F₁ [] [] ∧
      (∀ cenv i v I K D m F' ys ex s', EnvOk cenv (relab scope sc) → cenv.cells = cl → i < n → item i v → F₁.Le F' → J i F' ys ex → ys.length ≤ i →
        St (cx c₁.base F₁ s₁) F' cenv.locals m ((I, K) :: (D, lst ys) :: ex) s' →
        wpAny (model prog w) A (assign target cenv v) (fun _ s₂ =>
          wpAny (model prog w) A (forIn ifs true fun c r => if r = true then do let ok ← isTrue c cenv (eval c cenv); pure (ForInStep.yield ok) else pure (ForInStep.yield r)) (fun ok s₃ =>
            if ok = true then wpAny (model prog w) A (eval elt cenv) (fun y s₄ => ∃ m' F'' ex', F'.Le F'' ∧ St (cx c₁.base F₁ s₁) F'' cenv.locals m' ((I, K) :: (D, lst ys) :: ex') s₄ ∧ J (i + 1) F'' (ys ++ [y]) ex') NE s₃
            else ∃ m' F'' ex', F'.Le F'' ∧ St (cx c₁.base F₁ s₁) F'' cenv.locals m' ((I, K) :: (D, lst ys) :: ex') s₃ ∧ J (i + 1) F'' ys ex') NE s₂) NE s') ∧
      (∀ D F₂ F' ys ex s', F₁.Le F₂ → F₂.Le F' → St0 c₁ F' (ex ++ mu₁) s' → SList F' (.ref D) ys → J n F₂ ys ex → ys.length ≤ n → Q (.ref D) s')) E s)
    (hs : ∀ x, foldedSetIterable iter env x = pure x := by intro _; rfl) :
    wpAny (model prog w) A (eval (.ListComp elt [⟨target, iter, ifs, 0⟩] scope pos) env) Q E s := by
  rw [eval_ListComp]
  refine lcompCoreX (use := none) he hcl hsc J (wpAny_mono hit (fun x s₁ h => ?_) fun _ _ e => e) hs
  obtain ⟨c₁, F₁, mu₁, n, item, h1, h2, h3, h4, h5, h6⟩ := h
  exact ⟨c₁, F₁, mu₁, n, item, h1, h2, h3, h4, h5, fun C D F₂ F' m ys ex s' a0 a1 a2 a3 a4 a5 s'' a6 => h6 D F₂ F' ys ex s'' a0 a1 a6 a3 a4 a5⟩

theorem lcompAX {elt target iter : Expr} {ifs : List Expr} {scope : Scope} {vpos pos pos' : Pos} {x : PySem.Str} {cl : List (PySem.Str × Addr)} {Q : Flow → Shared → Prop} {E : Value → Shared → Prop}
    (he : EnvOk env sc) (hk : sc.kind = .function) (hsw : swapB sc x pos' vpos scope = true) (hcl : closL scope.names env.cells [] = some cl) (hsc : compNames scope = true)
    (J : Nat → Fz → List Value → Mu → Prop)
    (hit : wpAny (model prog w) A (eval iter env) (fun x₀ s₁ => ∃ c₁ F₁ m₁ mu₁ n item, St c₁ F₁ env.locals m₁ mu₁ s₁ ∧ ItOf prog w A F₁ x₀ n item ∧ n ≤ 2 ^ 20 ∧ J 0 F₁ [] [] ∧
      (∀ cenv i v I K D m F' ys ex s', EnvOk cenv (relab scope sc) → cenv.cells = cl → i < n → item i v → F₁.Le F' → J i F' ys ex → ys.length ≤ i →
        St (cx c₁.base F₁ s₁) F' cenv.locals m ((I, K) :: (D, lst ys) :: ex) s' →
        wpAny (model prog w) A (assign target cenv v) (fun _ s₂ =>
          wpAny (model prog w) A (forIn ifs true fun c r => if r = true then do let ok ← isTrue c cenv (eval c cenv); pure (ForInStep.yield ok) else pure (ForInStep.yield r)) (fun ok s₃ =>
            if ok = true then wpAny (model prog w) A (eval elt cenv) (fun y s₄ => ∃ m' F'' ex', F'.Le F'' ∧ St (cx c₁.base F₁ s₁) F'' cenv.locals m' ((I, K) :: (D, lst ys) :: ex') s₄ ∧ J (i + 1) F'' (ys ++ [y]) ex') NE s₃
            else ∃ m' F'' ex', F'.Le F'' ∧ St (cx c₁.base F₁ s₁) F'' cenv.locals m' ((I, K) :: (D, lst ys) :: ex') s₃ ∧ J (i + 1) F'' ys ex') NE s₂) NE s') ∧
      (∀ D F₂ F' ys ex s', F₁.Le F₂ → F₂.Le F' → St c₁ F' env.locals (upd m₁ x (.ref D)) (ex ++ mu₁) s' → SList F' (.ref D) ys → J n F₂ ys ex → ys.length ≤ n → Q .next s')) E s)
    (hs : ∀ x, foldedSetIterable iter env x = pure x := by intro _; rfl) (hl : sc.names.lookup x = some .local := by rfl) :
    wpAny (model prog w) A (exec (.Assign [.Name x pos'] (.ListComp elt [⟨target, iter, ifs, 0⟩] scope vpos) pos) env) Q E s := by
  rw [exec_Assign_Name_used _ _ _ _ (by rw [swaps_eq he hk, hsw])]
  refine wpAny_bind (wpAny_standAt (wpAny_bind ?_))
  rw [arm_evalThenUse_ListComp]
  show wpAny (model prog w) A (comprehension (.ListComp elt [⟨target, iter, ifs, 0⟩] scope vpos) scope env (firstIterPos [⟨target, iter, ifs, 0⟩] vpos) (newList []) false (eval iter env) (some (assign (.Name x pos') env)) >>= fun _ => pure ()) _ E s
  refine wpAny_bind (lcompCoreX (use := some (assign (.Name x pos') env)) he hcl hsc J (wpAny_mono hit (fun x₀ s₁ h => ?_) fun _ _ e => e) hs)
  obtain ⟨c₁, F₁, m₁, mu₁, n, item, h1, h2, h3, h4, h5, h6⟩ := h
  refine ⟨c₁, F₁, _, n, item, h1, h2, h3, h4, h5, fun C D F₂ F' m ys ex s' a0 a1 a2 a3 a4 a5 => ?_⟩
  have a2' : St c₁ F' env.locals m₁ ((C, nsIs m) :: (ex ++ mu₁)) s' := by
    refine a2.perm ?_
    refine (List.Perm.cons _ List.perm_middle).trans (List.Perm.swap _ _ _)
  refine wpAny_assign_Name (st' a2' he (fun s₂ T => ?_) hk hl)
  exact ⟨c₁, F', _, m, T.swap, fun s'' a6 => wpAny_pure (wpAny_pure (h6 D F₂ F' ys ex s'' a0 a1 a6 a3 a4 a5))⟩
end

/-- lists that stay open -/
abbrev Bags := List (Addr × List Value)
def bagMu (bs : Bags) : Mu := bs.map fun p => (p.1, lst p.2)
def bagVals (bs : Bags) : List Value := bs.map fun p => .ref p.1
theorem bag_focus {c : Cx} {F : Fz} {x : Addr × (Obj → Prop)} {bs : Bags} {mu : Mu} {s : Shared} {j : Nat} {a : Addr} {ws : List Value} (S : St0 c F (x :: (bagMu bs ++ mu)) s) (hj : bs[j]? = some (a, ws)) :
    ∃ rest, St0 c F ((a, lst ws) :: x :: rest) s ∧ ∀ F' s' x' ws', St0 c F' ((a, lst ws') :: x' :: rest) s' → St0 c F' (x' :: (bagMu (bs.set j (a, ws')) ++ mu)) s' := by
  have hlt := (List.getElem?_eq_some_iff.mp hj).1
  have e : bs = bs.take j ++ (a, ws) :: bs.drop (j + 1) := by
    have := (List.getElem?_eq_some_iff.mp hj).2
    rw [← this, List.getElem_cons_drop, List.take_append_drop]
  have e2 : ∀ ws', bs.set j (a, ws') = bs.take j ++ (a, ws') :: bs.drop (j + 1) := fun ws' => List.set_eq_take_append_cons_drop (l := bs) (i := j) (a := (a, ws')) |>.trans (by rw [if_pos hlt])
  refine ⟨bagMu (bs.take j) ++ bagMu (bs.drop (j + 1)) ++ mu, ?_, fun F' s' x' ws' S' => ?_⟩
  · refine S.perm ?_
    have : bagMu bs = bagMu (bs.take j) ++ (a, lst ws) :: bagMu (bs.drop (j + 1)) := by
      conv => lhs; rw [e]
      simp [bagMu]
    rw [this]
    refine List.Perm.trans (List.Perm.cons _ ?_) (List.Perm.swap _ _ _)
    rw [List.append_assoc, List.append_assoc, List.cons_append]
    exact List.perm_middle
  · refine S'.perm ?_
    have : bagMu (bs.set j (a, ws')) = bagMu (bs.take j) ++ (a, lst ws') :: bagMu (bs.drop (j + 1)) := by
      rw [e2]; simp [bagMu]
    rw [this]
    refine List.Perm.trans (List.Perm.swap _ _ _) (List.Perm.cons _ ?_)
    rw [List.append_assoc, List.append_assoc, List.cons_append]
    exact List.perm_middle.symm
/-- the lists close -/
theorem bag_freeze {c : Cx} {x : Addr × (Obj → Prop)} {mu : Mu} {s : Shared} : ∀ (bs : Bags) (F : Fz), St0 c F (x :: (bagMu bs ++ mu)) s → ∃ F', F.Le F' ∧ St0 c F' (x :: mu) s ∧ ∀ p ∈ bs, SList F' (.ref p.1) p.2
  | [], F, S => ⟨F, .refl _, S, fun _ h => nomatch h⟩
  | (a, ws) :: r, F, S => by
    have S' : St0 c F (x :: (a, lst ws) :: (bagMu r ++ mu)) s := S
    obtain ⟨F₁, h1, S₁, hD⟩ := freeze2 S'
    obtain ⟨F₂, h2, S₂, hr⟩ := bag_freeze r F₁ S₁
    refine ⟨F₂, h1.trans h2, S₂, fun p hp => ?_⟩
    rcases List.mem_cons.mp hp with rfl | hp
    · exact hD.le h2
    · exact hr p hp
end Mine
end

section
/-! F7: _law_places. -/
set_option maxRecDepth 100000
set_option maxHeartbeats 4000000
namespace Mine
open PySem PySem.Calls PyProof.Rows PySem.W PySem.Builtin

theorem fmod_nat (i n : Nat) : ((i : Int).fmod (n : Int)) = ((i % n : Nat) : Int) := by
  rw [Int.fmod_eq_emod_of_nonneg _ (Int.natCast_nonneg n)]; norm_cast
theorem fdiv2_nat (n : Nat) : ((n : Int) + 1).fdiv 2 = (((n + 1) / 2 : Nat) : Int) := by
  rw [Int.fdiv_eq_ediv_of_nonneg _ (by decide)]; norm_cast
theorem ints_get : ∀ {vs : List Value} {ns : List Int}, IntsAre vs ns → ∀ i, i < vs.length → ∃ n t, vs[i]? = some (.int n t) := by
  intro vs ns h
  induction h with
  | nil => intro i hi; exact absurd hi (Nat.not_lt_zero _)
  | cons n t r ih =>
    intro i hi
    cases i with
    | zero => exact ⟨_, _, rfl⟩
    | succ i => exact ih i (Nat.lt_of_succ_lt_succ hi)
theorem bagVals_get {bs : Bags} {j : Nat} {a : Addr} {ws : List Value} (h : bs[j]? = some (a, ws)) : (bagVals bs)[j]? = some (.ref a) := by simp [bagVals, h]
theorem bagVals_set {bs : Bags} {j : Nat} {a : Addr} {ws ws' : List Value} (h : bs[j]? = some (a, ws)) : bagVals (bs.set j (a, ws')) = bagVals bs := by
  unfold bagVals
  rw [List.map_set]
  apply List.ext_getElem?
  intro i
  rw [List.getElem?_set]
  split
  · rename_i e
    subst e
    obtain ⟨hlt, e⟩ := List.getElem?_eq_some_iff.mp h
    simp [hlt, e]
  · rfl
theorem bag_mem {bs : Bags} {j : Nat} {a : Addr} {ws : List Value} {mu : Mu} (h : bs[j]? = some (a, ws)) : (a, lst ws) ∈ bagMu bs ++ mu :=
  List.mem_append_left _ (List.mem_map.mpr ⟨(a, ws), List.mem_of_getElem? h, rfl⟩)

section
variable {prog : Program} {w : World} {A : Around} {H : Heap} {mg mb : PySem.Str → Option Value} {F : Fz} {s : Shared} {f f1 : Addr} {fd fd1 : FuncData} {c : Cx} {mu : Mu} {Q : Value → Shared → Prop} {E : Value → Shared → Prop}

theorem lenO {a : Addr} {ws : List Value} (S : St0 c F mu s) (h : (a, lst ws) ∈ mu) (hz : ws.length ≤ 1000000) (hq : ∀ s' t, St0 c F mu s' → Q (.int ws.length t) s') :
    wpAny (model prog w) A (call (.builtin "len") [.ref a]) Q E s := by
  obtain ⟨o, ho, hc, _, n, hd⟩ := S.at' _ h
  refine call_len_list (items := ws.toArray) ⟨o, ho, hc, n, hd⟩ (by rw [List.size_toArray]; omega) ?_
  rw [List.size_toArray]
  exact hq _ _ (S.tok _)

/-- the places: lists of pieces -/
structure Places (F : Fz) (v : Value) (pss : List (List T)) : Prop where
  is : ∃ vs, SList F v vs ∧ SLs false F pss vs
  low : 2 ≤ pss.length
  high : pss.length ≤ 6
  short : ∀ ps ∈ pss, ps.length ≤ 6
  piece : ∀ ps ∈ pss, ∀ p ∈ ps, Piece p

theorem bag_SLs {oct : Bool} {F : Fz} : ∀ (bs : Bags), (∀ p ∈ bs, SList F (.ref p.1) p.2) → (∀ p ∈ bs, ∃ ps, TxL oct ps p.2 ∧ ps.length ≤ 6 ∧ ∀ q ∈ ps, Piece q) →
    ∃ pss, SLs oct F pss (bagVals bs) ∧ pss.length = bs.length ∧ (∀ ps ∈ pss, ps.length ≤ 6) ∧ ∀ ps ∈ pss, ∀ p ∈ ps, Piece p
  | [], _, _ => ⟨[], .nil, rfl, (fun _ h => nomatch h), fun _ h => nomatch h⟩
  | p :: r, h1, h2 => by
    obtain ⟨pss, a1, a2, a3, a4⟩ := bag_SLs r (fun q hq => h1 q (.tail _ hq)) (fun q hq => h2 q (.tail _ hq))
    obtain ⟨ps, b1, b2, b3⟩ := h2 p (List.mem_cons_self)
    refine ⟨ps :: pss, .cons ⟨p.2, h1 p (List.mem_cons_self), b1⟩ a1, by simp [a2], fun q hq => ?_, fun q hq => ?_⟩
    · rcases List.mem_cons.mp hq with rfl | hq
      · exact b2
      · exact a3 q hq
    · rcases List.mem_cons.mp hq with rfl | hq
      · exact b3
      · exact a4 q hq

theorem placesC (B : Bs H mg mb) (G : Gl mg) (X : FnAt H mg "_law_places" (nth 19) f fd) (X1 : FnAt H mg "_law_piece" (nth 18) f1 fd1) (p : Pre H F s) (hr : Rm A 4) (l : Addr) (vs : List Value) (ns : List Int)
    (hl : SList F (.ref l) vs) (hi : IntsAre vs ns) (hz : vs.length ≤ 1000) :
    codeAny (model prog w) A (.call (.ref f) ⟨[.ref l], []⟩) (Res s F fun F' v => ∃ pss, Places F' v pss) s := by
  refine enter B X p hr (binds := [("numbers", .ref l)]) (X.binds fun _ _ _ _ _ _ _ _ _ _ _ _ => rfl) fun env s₁ he S hr' => ?_
  have hh : (A.deeper env).handled = none := hr'.hd
  -- count
  refine execsNext (wpAny_mono (Q := fun f s' => f = .next ∧ ∃ (cnt : Nat) (tc : Tok), 2 ≤ cnt ∧ cnt ≤ 6 ∧ ∃ m, m "numbers" = some (.ref l) ∧ m "count" = some (.int cnt tc) ∧ St (cx H F s) F env.locals m [] s') ?_ (fun fl s2 hq => ?_) fun _ _ e => e)
  · refine wpAny_Assign_Name (wpAny_IfExp (wpAny_isTrue_Compare1 (cB1 (fun _ h => ldB S B G he h) (ld' S he rfl (lenS S hl (by omega) fun s2 t2 S2 => constI S2 fun s3 t3 S3 => P.gt_int (wpAny_truthy_bool ?_))))))
    by_cases hgt : (vs.length : Int) > 11
    · rw [decide_eq_true hgt, if_pos rfl]
      exact constI S3 fun s4 t4 S4 => st' S4 he fun s5 S5 => ⟨rfl, 6, t4, by omega, by omega, _, rfl, rfl, S5⟩
    · rw [decide_eq_false hgt, if_neg Bool.false_ne_true]
      refine cB2 (fun _ h => ldB S3 B G he h) (constI S3 fun s4 t4 S4 => wpAny_BinOp ?_)
      refine wpAny_BinOp (cB1 (fun _ h => ldB S4 B G he h) (ld' S4 he rfl (lenS S4 hl (by omega) fun s5 t5 S5 => constI S5 fun s6 t6 S6 => addI S6 fun s7 t7 S7 => constI S7 fun s8 t8 S8 => fdivI (.inr rfl) S8 fun s9 t9 S9 => ?_)))
      rw [fdiv2_nat]
      refine max_two_ints (show (A.deeper env).handled = none from hh) fun h' tk hk => ?_
      have S10 := S9.keep (s' := { s9 with heap := h', toks := tk }) hk rfl rfl
      by_cases hbg : ((((vs.length + 1) / 2 : Nat) : Int)) > 2
      · rw [if_pos hbg]
        exact st' S10 he fun s11 S11 => ⟨rfl, (vs.length + 1) / 2, t9, by omega, by omega, _, rfl, rfl, S11⟩
      · rw [if_neg hbg]
        exact st' S10 he fun s11 S11 => ⟨rfl, 2, t4, by omega, by omega, _, rfl, rfl, S11⟩
  obtain ⟨rfl, cnt, tc, hlo, hhi, m, hmn, hmc, S2⟩ := hq
  refine ⟨rfl, ?_⟩
  -- spelled
  refine execsNext (lcompAX (cl := []) he rfl (by rfl) (by rfl) (by rfl) (fun i F ys ex => ∃ bs : Bags, ys = bagVals bs ∧ ex = bagMu bs ∧ bs.length = i ∧ ∀ p ∈ bs, p.2 = []) ?_)
  refine cT1 (fun _ h => ldB S2 B G he h) (ld' S2 he hmc (range1 S2 (by omega) fun r F₁ s3 hle S3 hit => ?_))
  refine ⟨_, _, _, _, _, _, S3, hit _ hh, by omega, ⟨[], rfl, rfl, rfl, fun _ h => nomatch h⟩, ?_, ?_⟩
  · rintro cenv i v I K D m' F' ys ex s' heC hcC hi' hv hle' ⟨bs, rfl, rfl, hbl, hbe⟩ hys S'
    obtain ⟨tv, rfl⟩ := hv
    refine wpAny_assign_Name (st' S' heC fun s4 S4 => wpAny_tests_nil ?_)
    rw [if_pos rfl]
    refine List_ (args_nil (newListS S4 (by simp) fun a s5 _ _ S5 => ?_))
    refine ⟨upd m' "k" (.int (i : Nat) tv), F', bagMu (bs ++ [(a, [])]), .refl _, ?_, bs ++ [(a, [])], by simp [bagVals], rfl, by simp [hbl], ?_⟩
    · refine S5.perm ?_
      have e : bagMu (bs ++ [(a, [])]) = bagMu bs ++ [(a, lst [])] := by simp [bagMu]
      rw [e]
      exact (List.perm_append_singleton (a, lst ([] : List Value)) ((cenv.locals, nsIs (upd m' "k" (.int (i : Nat) tv))) :: (I, K) :: (D, lst (bagVals bs)) :: bagMu bs)).symm
    · intro p hp
      rcases List.mem_append.mp hp with hp | hp
      · exact hbe p hp
      · rw [List.mem_singleton.mp hp]
  rintro D F₂ F₃ ys ex s4 hle2 hle3 S4 hD ⟨bs0, rfl, rfl, hbl0, hbe0⟩ hlen
  refine ⟨rfl, ?_⟩
  rw [List.append_nil] at S4
  have hDv : SList F₃ (.ref D) (bagVals bs0) := hD
  -- the loop
  refine execsNext (forS (fun i F m mu => ∃ bs : Bags, mu = bagMu bs ∧ bagVals bs = bagVals bs0 ∧ bs.length = cnt ∧ m "numbers" = some (.ref l) ∧ m "count" = some (.int cnt tc) ∧ m "spelled" = some (.ref D) ∧
      (∀ p ∈ bs, ∃ ps, TxL false ps p.2 ∧ ps.length ≤ 6 ∧ ∀ q ∈ ps, Piece q))
    (cT1 (fun _ h => ldB S4 B G he h) (cB1 (fun _ h => ldB S4 B G he h) (ld' S4 he hmn (lenS S4 (hl.le ((hle.trans hle2).trans hle3)) (by omega) fun s5 t5 S5 => range1 S5 (by omega) fun r2 F₄ s6 hle4 S6 hit2 => ?_)))))
  have hle04 := ((hle.trans hle2).trans hle3).trans hle4
  refine ⟨_, _, _, _, _, _, S6, hit2 _ hh, ⟨bs0, rfl, rfl, hbl0, hmn, hmc, rfl, fun p hp => ⟨[], by rw [hbe0 p hp]; exact .nil, by simp, fun _ h => nomatch h⟩⟩, ?_, ?_⟩
  · rintro i v I K m' F' mu' s' hi' ⟨tv, rfl⟩ hle' ⟨bs, rfl, hbv, hbl, k1, k2, k3, k4⟩ S'
    refine wpAny_assign_Name (st' S' he fun s7 S7 => ?_)
    have hD' : SList F' (.ref D) (bagVals bs) := by rw [hbv]; exact (hDv.le hle4).le hle'
    have hjlt : i % cnt < bs.length := by rw [hbl]; exact Nat.mod_lt _ (by omega)
    obtain ⟨a, ws, hj⟩ : ∃ a ws, bs[i % cnt]? = some (a, ws) := ⟨_, _, List.getElem?_eq_getElem hjlt⟩
    obtain ⟨ps, hps, hpl, hpp⟩ := k4 _ (List.mem_of_getElem? hj)
    have hwl : ws.length = ps.length := hps.length.symm
    obtain ⟨n, tn, hn⟩ := ints_get hi i hi'
    refine execsNext (wpAny_mono (Q := fun f s' => f = .next ∧ ∃ m' F'' mu'', F'.Le F'' ∧ St (cx H F s) F'' env.locals m' ((I, K) :: mu'') s' ∧ ∃ bs : Bags, mu'' = bagMu bs ∧ bagVals bs = bagVals bs0 ∧ bs.length = cnt ∧ m' "numbers" = some (.ref l) ∧ m' "count" = some (.int cnt tc) ∧ m' "spelled" = some (.ref D) ∧
      (∀ p ∈ bs, ∃ ps, TxL false ps p.2 ∧ ps.length ≤ 6 ∧ ∀ q ∈ ps, Piece q)) ?_ (fun fl s8 hq => ?_) fun _ _ e => e)
    · refine wpAny_If (wpAny_isTrue_Compare1 (cB1 (fun _ h => ldB S7 B G he h) ?_))
      refine subS (ld' S7 he k3 (wpAny_BinOp (ld' S7 he rfl (ld' S7 he k2 (modI (by omega) S7 fun s8 t8 S8 => ?_)))))
      rw [fmod_nat]
      refine ⟨_, _, _, _, _, i % cnt, t8, S8, hD', rfl, by omega, bagVals_get hj, ?_⟩
      refine lenO S8 (.tail _ (.tail _ (by have := bag_mem (mu := []) hj; rwa [List.append_nil] at this))) (by omega) fun s9 t9 S9 => constI S9 fun s10 t10 S10 => P.lt_int (wpAny_truthy_bool ?_)
      by_cases hlt6 : (ws.length : Int) < 6
      · rw [decide_eq_true hlt6, if_pos rfl]
        refine execsNext (wpAny_Expr ?_ (by unfold interactive; rw [he.scope]; rfl))
        refine MethodCall_ ?_
        refine subS (ld' S10 he k3 (wpAny_BinOp (ld' S10 he rfl (ld' S10 he k2 (modI (by omega) S10 fun s11 t11 S11 => ?_)))))
        rw [fmod_nat]
        refine ⟨_, _, _, _, _, i % cnt, t11, S11, hD', rfl, by omega, bagVals_get hj, ?_⟩
        have hmem : (a, lst ws) ∈ bagMu bs := by have := bag_mem (mu := []) hj; rwa [List.append_nil] at this
        obtain ⟨oa, hoa, hca, hda, _⟩ := S11.at' _ (.tail _ (.tail _ hmem))
        refine getMethod_list_append hoa hca hda ?_
        refine callWith_method1 (args_cons ?_)
        refine cF1 S11 rfl B X1 he (subS (ld' S11 he k1 (ld' S11 he rfl ⟨_, _, _, _, _, i, tv, S11, (hl.le hle04).le hle', rfl, by omega, hn, ⟨_, _, S11⟩, ?_⟩)))
        refine callS S11 (pieceC B G X1 S11.pre (hr'.le (by omega)) n tn) fun v F'' s12 hle12 S12 hv => args_nil ?_
        obtain ⟨q, tq, rfl, hq⟩ := hv
        have S12' : St0 (cx H F s) F'' ((I, K) :: (bagMu bs ++ [(env.locals, nsIs (upd m' "k" (.int (i : Nat) tv)))])) s12 := by
          refine S12.perm ?_
          refine (List.Perm.swap _ _ _).trans (List.Perm.cons _ ?_)
          exact (List.perm_append_singleton _ _).symm
        obtain ⟨rest, f1', f2'⟩ := bag_focus S12' hj
        refine appendS f1' (by show ws.length ≤ 2 ^ 24; omega) fun s13 S13 => ?_
        have S14 := f2' _ _ _ _ S13
        refine ⟨rfl, wpAny_execs_nil ⟨rfl, upd m' "k" (.int (i : Nat) tv), F'', bagMu (bs.set (i % cnt) (a, ws ++ [tx false q tq])), hle12, ?_, bs.set (i % cnt) (a, ws ++ [tx false q tq]), rfl, by rw [bagVals_set hj, hbv], by rw [List.length_set]; exact hbl, k1, k2, k3, ?_⟩⟩
        · refine S14.perm ?_
          refine List.Perm.trans (List.Perm.cons _ (List.perm_append_singleton _ _)) (List.Perm.swap _ _ _)
        · intro p hp
          rcases List.mem_or_eq_of_mem_set hp with hp | rfl
          · exact k4 p hp
          · refine ⟨ps ++ [q], hps.snoc ⟨tq, rfl⟩, by simp; omega, fun z hz => ?_⟩
            rcases List.mem_append.mp hz with hz | hz
            · exact hpp z hz
            · rw [List.mem_singleton.mp hz]; exact hq
      · rw [decide_eq_false hlt6, if_neg Bool.false_ne_true]
        exact wpAny_execs_nil ⟨rfl, _, F', _, .refl _, S10, bs, rfl, hbv, hbl, k1, k2, k3, k4⟩
    obtain ⟨rfl, h⟩ := hq
    exact ⟨rfl, wpAny_execs_nil h⟩
  · rintro F' m' mu' s' hle' ⟨bs, rfl, hbv, hbl, k1, k2, k3, k4⟩ S'
    refine ⟨rfl, wpAny_execs_cons (wpAny_Return_some (ld' S' he k3 ?_))⟩
    have S'' : St0 (cx H F s) F' ((env.locals, nsIs m') :: (bagMu bs ++ [])) s' := by rw [List.append_nil]; exact S'
    obtain ⟨F'', hle'', S3', hfr⟩ := bag_freeze bs F' S''
    obtain ⟨pss, q1, q2, q3, q4⟩ := bag_SLs bs hfr k4
    exact ⟨_, _, _, F'', S3', pss, ⟨_, (by rw [hbv]; exact ((hDv.le hle4).le hle').le hle''), q1⟩, by omega, by omega, q3, q4⟩
end
end Mine
end

section
/-! M22: a list comprehension whose name is a cell. -/
set_option maxRecDepth 100000
set_option maxHeartbeats 4000000
namespace Mine
open PySem PySem.Calls PyProof.Rows PySem.W PySem.Builtin

section
variable {prog : Program} {w : World} {A : Around} {c : Cx} {F : Fz} {mu : Mu} {s : Shared} {env : Env} {sc : Scope}

theorem wpAny_newEnvK {M : Model} {A : Around} {E : Value → Shared → Prop} {s : Shared} {scope : Scope} {globals : Addr} {cl : List (PySem.Str × Addr)} {x : PySem.Str} {qual : PySem.Str} {func : Option Addr} {code : Value} {outer : Env} {builtins : Addr} {Q : Env → Shared → Prop}
    (hcf : ∀ n acc, cellsFrom n scope.names acc = (x, n) :: acc) (hpc : ∀ h, pushCells h scope.names = h.push { cls := .type "cell", data := .cell none })
    (hQ : ∀ h' kc, s.heap.get? s.heap.objs.size = none → s.heap.get? kc = none → kc ≠ s.heap.objs.size → h'.Ns s.heap.objs.size (fun _ => none) → h'.IsCell kc none → (∀ b o, s.heap.get? b = some o → h'.get? b = some o) →
      Q (newEnv scope s.heap.objs.size globals ((x, kc) :: cl) qual func code (some outer) builtins) { s with heap := h' }) :
    wpAny M A (newFunctionEnv scope globals cl [] qual func code (some outer) builtins) Q E s := by
  simp only [newFunctionEnv, Option.isSome_some, if_true]
  refine wpAny_bind (wpAny_alloc ?_)
  refine wpAny_bind (wpAny_layCells _ (fun name kind cells => by cases hkc : kind == NameKind.cell <;> simp [hkc]) _ _ _ _ ?_)
  rw [hcf, hpc]
  refine wpAny_bind (wpAny_pure (wpAny_pure ?_))
  have e : (s.heap.push { cls := .type "dict", data := .dict #[] }).objs.size = s.heap.objs.size + 1 := Heap.size_push _ _
  dsimp only
  rw [e]
  have hkn : s.heap.get? (s.heap.objs.size + 1) = none := by
    cases q : s.heap.get? (s.heap.objs.size + 1) with
    | none => rfl
    | some o => exact absurd (Heap.lt_size q) (Nat.not_lt.mpr (Nat.le_succ _))
  refine hQ ((s.heap.push { cls := .type "dict", data := .dict #[] }).push { cls := .type "cell", data := .cell none }) (s.heap.objs.size + 1) (get_none_size _) hkn (Nat.ne_of_gt (Nat.lt_succ_self _)) ?_ ?_ fun b o q => Heap.get?_push_of_some _ (Heap.get?_push_of_some _ q)
  · exact (Heap.Ns.new s.heap (.type "dict")).keeps fun b o q => Heap.get?_push_of_some _ q
  · have := Heap.get?_push_size (s.heap.push { cls := .type "dict", data := .dict #[] }) (o := { cls := .type "cell", data := .cell none }) rfl
    rw [e] at this
    exact ⟨_, this, rfl⟩

theorem lcompCoreY {xn : PySem.Str} {elt target iter : Expr} {ifs : List Expr} {scope sc : Scope} {pos p0 : Pos} {env : Env} {cl : List (PySem.Str × Addr)} {Q : Value → Shared → Prop} {E : Value → Shared → Prop}
    (he : EnvOk env sc) (hcl : closL scope.names env.cells [] = some cl) (hkind' : scope.kind = .function) (hnames : scope.names.all (fun x => x.2 != .local || scope.names.lookup x.1 == some .local) = true)
    (hcf : ∀ n acc, cellsFrom n scope.names acc = (xn, n) :: acc) (hpc : ∀ h, pushCells h scope.names = h.push { cls := .type "cell", data := .cell none })
    (J : Addr → Nat → Fz → List Value → Mu → Prop)
    (hit : wpAny (model prog w) A (eval iter env) (fun x s₁ => ∃ c₁ F₁ mu₁ n item, St0 c₁ F₁ mu₁ s₁ ∧ ItOf prog w A F₁ x n item ∧ n ≤ 2 ^ 20 ∧ (∀ kc, J kc 0 F₁ [] [(kc, cellIs none)]) ∧
      (∀ cenv kc i v I K D m F' ys ex s', EnvOk cenv (relab scope sc) → cenv.cells = (xn, kc) :: cl → i < n → item i v → F₁.Le F' → J kc i F' ys ex → ys.length ≤ i →
        St (cx c₁.base F₁ s₁) F' cenv.locals m ((I, K) :: (D, lst ys) :: ex) s' →
        wpAny (model prog w) A (assign target cenv v) (fun _ s₂ =>
          wpAny (model prog w) A (forIn ifs true fun c r => if r = true then do let ok ← isTrue c cenv (eval c cenv); pure (ForInStep.yield ok) else pure (ForInStep.yield r)) (fun ok s₃ =>
            if ok = true then wpAny (model prog w) A (eval elt cenv) (fun y s₄ => ∃ m' F'' ex', F'.Le F'' ∧ St (cx c₁.base F₁ s₁) F'' cenv.locals m' ((I, K) :: (D, lst ys) :: ex') s₄ ∧ J kc (i + 1) F'' (ys ++ [y]) ex') NE s₃
            else ∃ m' F'' ex', F'.Le F'' ∧ St (cx c₁.base F₁ s₁) F'' cenv.locals m' ((I, K) :: (D, lst ys) :: ex') s₃ ∧ J kc (i + 1) F'' ys ex') NE s₂) NE s') ∧
      (∀ D kc F₂ F' ys ex s', F₁.Le F₂ → F₂.Le F' → St0 c₁ F' (ex ++ mu₁) s' → SList F' (.ref D) ys → J kc n F₂ ys ex → ys.length ≤ n → Q (.ref D) s')) E s)
    (hs : ∀ x, foldedSetIterable iter env x = pure x := by intro _; rfl) :
    wpAny (model prog w) A (comprehension (.ListComp elt [⟨target, iter, ifs, 0⟩] scope pos) scope env p0 (newList []) false (eval iter env) none) Q E s := by
  refine wpAny_comprehension_free (g := ⟨target, iter, ifs, 0⟩) (gs := []) rfl hs (closure_eq hcl) hkind' (fun x hx hl => ?_) (wpAny_mono hit (fun x s₁ hx => ?_) fun _ _ e => e)
  · have := List.all_eq_true.mp hnames x hx
    rw [hl] at this
    simpa using this
  obtain ⟨c₁, F₁, mu₁, n, item, S₁, hItOf, hn, hJ0, turn, fin⟩ := hx
  refine hItOf s₁ _ _ S₁.inn fun I K h₂ tk hI hk₂ hKI W => ?_
  have T₂ : St0 (cx c₁.base F₁ s₁) F₁ [(I, K 0)] { s₁ with heap := h₂, toks := tk } := S₁.pre.start.new_at hI hk₂ hKI rfl rfl
  refine newListS T₂ (Nat.zero_le _) fun D s₃ hD hsz₃ T₃ => ?_
  refine wpAny_newEnvK hcf hpc (fun h₄ kc hC hkc hne hns hcc₄ hk₄ => ?_)
  have T₄ : St (cx c₁.base F₁ s₁) F₁ s₃.heap.objs.size (fun _ => none) [(I, K 0), (D, lst []), (kc, cellIs none)] { s₃ with heap := h₄ } := by
    have K0 := T₃.keep (s' := { s₃ with heap := h₄ }) hk₄ rfl rfl
    obtain ⟨o', es, ep, ho', h1, h2, h3⟩ := hns
    obtain ⟨oc, hoc, hdc⟩ := hcc₄
    have f1 := T₃.fresh_ne hC
    have f2 := T₃.fresh_ne hkc
    have T1 : St0 (cx c₁.base F₁ s₁) F₁ [(kc, cellIs none), (D, lst []), (I, K 0)] { s₃ with heap := h₄ } := K0.cons f2.1 f2.2.1 f2.2.2 ⟨oc, hoc, hdc⟩
    have T2 : St0 (cx c₁.base F₁ s₁) F₁ [(s₃.heap.objs.size, nsIs fun _ => none), (kc, cellIs none), (D, lst []), (I, K 0)] { s₃ with heap := h₄ } := by
      refine T1.cons f1.1 f1.2.1 (fun p hp => ?_) ⟨o', ho', es, ep, h1, h2, h3⟩
      rcases List.mem_cons.mp hp with rfl | hp
      · exact hne
      · exact f1.2.2 p hp
    exact T2.perm (List.Perm.cons _ (by
      refine (List.reverse_perm _).symm.trans ?_
      exact List.Perm.cons _ (List.Perm.refl _)))
  generalize hcenv : ({ (newEnv scope s₃.heap.objs.size env.globals ((xn, kc) :: cl) env.qual none .none (some env) env.builtins) with scope := relabel scope env } : Env) = cenv
  have hcE : EnvOk cenv (relab scope sc) := by subst hcenv; exact ⟨relabel_eq he, he.globals, he.builtins⟩
  have hcc : cenv.cells = (xn, kc) :: cl := by subst hcenv; rfl
  have hcL : cenv.locals = s₃.heap.objs.size := by subst hcenv; rfl
  have loop : ∀ s', (∃ m F', F₁.Le F' ∧ J kc 0 F' [] [(kc, cellIs none)] ∧ St (cx c₁.base F₁ s₁) F' cenv.locals m [(I, K 0), (D, lst []), (kc, cellIs none)] s') →
      codeAny (model prog w) A (.compLoop (.ListComp elt [⟨target, iter, ifs, 0⟩] scope pos) 0 (.ref I) (.ref D) cenv) (compPost (model prog w) A E none Q (.ref D) s₃.heap.objs.size) s' := by
    rintro s' ⟨m, F', hle, hJ0', T⟩
    refine compTests (fun k s' => ∃ i m F' ys ex, k = n - i ∧ i ≤ n ∧ ys.length ≤ i ∧ F₁.Le F' ∧ J kc i F' ys ex ∧ St (cx c₁.base F₁ s₁) F' cenv.locals m ((I, K i) :: (D, lst ys) :: ex) s') ?_ n
      ⟨0, m, F', [], [(kc, cellIs none)], rfl, Nat.zero_le _, Nat.le_refl _, hle, hJ0', T⟩
    rintro k s' ⟨i, m, F', ys, ex, rfl, hi, hys, hle, hJi, T⟩
    have TI := T.swap.hd
    by_cases hlt : i < n
    · refine W.next i hlt s' _ _ (hle.inn T.inn) TI fun v h' tk hv hk hK => ?_
      have T' : St (cx c₁.base F₁ s₁) F' cenv.locals m ((I, K (i + 1)) :: (D, lst ys) :: ex) { s' with heap := h', toks := tk } := (T.swap.upd (s' := { s' with heap := h', toks := tk }) hk hK rfl rfl).swap
      refine W.go (i + 1) target v _ _ _ T'.swap.hd ?_
      refine wpAny_mono (turn cenv kc i v I (K (i + 1)) D m F' ys ex _ hcE hcc hlt hv hle hJi hys T') (fun _ s₂ h₂ => wpAny_mono h₂ (fun ok s₃ h₃ => ?_) fun _ _ e => e.elim) fun _ _ e => e.elim
      cases ok with
      | false =>
        simp only [Bool.false_eq_true, if_false] at h₃ ⊢
        obtain ⟨m', F'', ex', hle', T'', hJ''⟩ := h₃
        exact ⟨n - (i + 1), by omega, i + 1, m', F'', ys, ex', rfl, hlt, by omega, hle.trans hle', hJ'', T''⟩
      | true =>
        simp only [if_true] at h₃ ⊢
        refine wpAny_mono h₃ (fun y s₄ h₄ => ?_) fun _ _ e => e.elim
        obtain ⟨m', F'', ex', hle', T'', hJ''⟩ := h₄
        refine appendS T''.rot (by show ys.length ≤ 2 ^ 24; omega) fun s₅ T₅ => ?_
        exact ⟨n - (i + 1), by omega, i + 1, m', F'', ys ++ [y], ex', rfl, hlt, by rw [List.length_append]; exact Nat.succ_le_succ hys, hle.trans hle', hJ'', T₅.rot.rot⟩
    · have hin : i = n := by omega
      subst hin
      refine W.fin s' _ _ (hle.inn T.inn) TI fun h' tk hk => ?_
      have T' : St (cx c₁.base F₁ s₁) F' cenv.locals m ((D, lst ys) :: ex) { s' with heap := h', toks := tk } := objGone (h' := h') (tk := tk) T.swap hk
      obtain ⟨o, hlo, hleD, hput, T''⟩ := T'.swap.freeze
      have Z' : St0 c₁ (F'.put D o) ((s₃.heap.objs.size, nsIs m) :: (ex ++ mu₁)) { s' with heap := h', toks := tk } := by
        have := S₁.merge _ T''
        rw [hcL] at this
        exact this
      unfold compPost
      refine ⟨m, St.ns Z', fun h'' hs'' => ?_⟩
      exact fin D kc F' (F'.put D o) ys ex _ hle hleD (objGone (s := { s' with heap := h', toks := tk }) (h' := h'') (tk := tk) Z' fun b o hb e => (hs''.2 b hb).trans e) ⟨D, o, rfl, hput, hlo⟩ hJi hys
  have hstart : ∃ m F', F₁.Le F' ∧ J kc 0 F' [] [(kc, cellIs none)] ∧ St (cx c₁.base F₁ s₁) F' cenv.locals m [(I, K 0), (D, lst []), (kc, cellIs none)] { s₃ with heap := h₄ } := ⟨_, F₁, .refl _, hJ0 kc, by rw [hcL]; exact T₄⟩
  have := codeAny_compStart_list (prog := prog) (w := w) (A := A) (elt := elt) (target := target) (iter := iter) (ifs := ifs) (rest := []) (scope := scope) (pos := pos) (env := cenv) (loop _ hstart)
    (W.self _ _ _ (T₄.inn) T₄.swap.hd (loop _ hstart))
  subst hcenv
  exact this


theorem lcompY {x : PySem.Str} {elt target iter : Expr} {ifs : List Expr} {scope : Scope} {pos : Pos} {cl : List (PySem.Str × Addr)} {Q : Value → Shared → Prop} {E : Value → Shared → Prop}
    (he : EnvOk env sc) (hcl : closL scope.names env.cells [] = some cl) (hkind' : scope.kind = .function) (hnames : scope.names.all (fun x => x.2 != .local || scope.names.lookup x.1 == some .local) = true)
    (hcf : ∀ n acc, cellsFrom n scope.names acc = (x, n) :: acc) (hpc : ∀ h, pushCells h scope.names = h.push { cls := .type "cell", data := .cell none })
    (J : Addr → Nat → Fz → List Value → Mu → Prop)
    (hit : wpAny (model prog w) A (eval iter env) (fun x₀ s₁ => ∃ c₁ F₁ mu₁ n item, St0 c₁ F₁ mu₁ s₁ ∧ ItOf prog w A F₁ x₀ n item ∧ n ≤ 2 ^ 20 ∧ (∀ kc, J kc 0 F₁ [] [(kc, cellIs none)]) ∧
      (∀ cenv kc i v I K D m F' ys ex s', EnvOk cenv (relab scope sc) → cenv.cells = (x, kc) :: cl → i < n → item i v → F₁.Le F' → J kc i F' ys ex → ys.length ≤ i →
        St (cx c₁.base F₁ s₁) F' cenv.locals m ((I, K) :: (D, lst ys) :: ex) s' →
        wpAny (model prog w) A (assign target cenv v) (fun _ s₂ =>
          wpAny (model prog w) A (forIn ifs true fun c r => if r = true then do let ok ← isTrue c cenv (eval c cenv); pure (ForInStep.yield ok) else pure (ForInStep.yield r)) (fun ok s₃ =>
            if ok = true then wpAny (model prog w) A (eval elt cenv) (fun y s₄ => ∃ m' F'' ex', F'.Le F'' ∧ St (cx c₁.base F₁ s₁) F'' cenv.locals m' ((I, K) :: (D, lst ys) :: ex') s₄ ∧ J kc (i + 1) F'' (ys ++ [y]) ex') NE s₃
            else ∃ m' F'' ex', F'.Le F'' ∧ St (cx c₁.base F₁ s₁) F'' cenv.locals m' ((I, K) :: (D, lst ys) :: ex') s₃ ∧ J kc (i + 1) F'' ys ex') NE s₂) NE s') ∧
      (∀ D kc F₂ F' ys ex s', F₁.Le F₂ → F₂.Le F' → St0 c₁ F' (ex ++ mu₁) s' → SList F' (.ref D) ys → J kc n F₂ ys ex → ys.length ≤ n → Q (.ref D) s')) E s)
    (hs : ∀ x, foldedSetIterable iter env x = pure x := by intro _; rfl) :
    wpAny (model prog w) A (eval (.ListComp elt [⟨target, iter, ifs, 0⟩] scope pos) env) Q E s := by
  rw [eval_ListComp]
  exact lcompCoreY he hcl hkind' hnames hcf hpc J hit hs
end
end Mine
end

section
/-! F8: _law_round. -/
set_option maxRecDepth 100000
set_option maxHeartbeats 4000000
namespace Mine
open PySem PySem.Calls PyProof.Rows PySem.W PySem.Builtin

/-- a table of ints that stands still -/
def Mat (F : Fz) (v : Value) (n : Nat) (M : Nat → Nat → Int) : Prop :=
  ∃ vs, SList F v vs ∧ vs.length = n ∧ ∀ i, i < n → ∃ rv ws, vs[i]? = some rv ∧ SList F rv ws ∧ ∀ j, j < n → ∃ t, ws[j]? = some (.int (M i j) t)
theorem Mat.le {F G : Fz} {v : Value} {n : Nat} {M : Nat → Nat → Int} (h : Mat F v n M) (l : F.Le G) : Mat G v n M := by
  obtain ⟨vs, a, b, c⟩ := h
  refine ⟨vs, a.le l, b, fun i hi => ?_⟩
  obtain ⟨rv, ws, h1, h2, h3⟩ := c i hi
  exact ⟨rv, ws, h1, h2.le l, h3⟩
abbrev NatsAre : List Nat → List Value → Prop := Paired fun (k : Nat) (v : Value) => ∃ t, v = .int (k : Int) t

/-- the length of a way on to home -/
def cost (M : Nat → Nat → Int) (home : Nat) : Nat → List Nat → Int
  | here, [] => M here home
  | here, k :: p => M here k + cost M home k p
structure RoundIs (M : Nat → Nat → Int) (home here : Nat) (left : List Nat) (r : Int) : Prop where
  is : ∃ p : List Nat, p.Perm left ∧ r = cost M home here p
  low : ∀ p : List Nat, p.Perm left → r ≤ cost M home here p

theorem argBest_min (x : Nat → Int) : ∀ k, argBest (fun i j => decide (x i < x j)) k ≤ k ∧ ∀ i, i ≤ k → x (argBest (fun i j => decide (x i < x j)) k) ≤ x i
  | 0 => ⟨Nat.le_refl _, fun i hi => by have : i = 0 := by omega
                                        subst this; exact Int.le_refl _⟩
  | k + 1 => by
    obtain ⟨h1, h2⟩ := argBest_min x k
    unfold argBest
    by_cases hc : x (k + 1) < x (argBest (fun i j => decide (x i < x j)) k)
    · rw [if_pos (decide_eq_true hc)]
      refine ⟨Nat.le_refl _, fun i hi => ?_⟩
      by_cases h : i = k + 1
      · subst h; exact Int.le_refl _
      · have := h2 i (by omega); omega
    · rw [if_neg (by rw [decide_eq_false hc]; exact Bool.false_ne_true)]
      refine ⟨by omega, fun i hi => ?_⟩
      by_cases h : i = k + 1
      · subst h; omega
      · exact h2 i (by omega)

theorem round_min {M : Nat → Nat → Int} {home here : Nat} {left : List Nat} {rs : List Int} (hn : left.Nodup) (hne : left ≠ []) (hl : rs.length = left.length)
    (h : ∀ (i : Nat) (k : Nat), left[i]? = some k → ∃ r, rs[i]? = some (M here k + r) ∧ RoundIs M home k (left.filter (· != k)) r) {i : Nat} {r : Int} (hi : rs[i]? = some r) (hmin : ∀ (j : Nat) (r' : Int), rs[j]? = some r' → r ≤ r') :
    RoundIs M home here left r := by
  have hsub : ∀ k ∈ left, left.Perm (k :: left.filter (· != k)) := fun k hk => by
    have e : left.filter (· != k) = left.erase k := by
      rw [List.Nodup.erase_eq_filter hn]
    rw [e]
    exact List.perm_cons_erase hk
  constructor
  · have hil : i < left.length := by rw [← hl]; exact (List.getElem?_eq_some_iff.mp hi).1
    obtain ⟨r', h1, h2⟩ := h i _ (List.getElem?_eq_getElem hil)
    rw [hi] at h1
    obtain ⟨p, hp, e⟩ := h2.is
    refine ⟨left[i] :: p, (hp.cons _).trans (hsub _ (List.getElem_mem hil)).symm, ?_⟩
    cases h1
    rw [cost, e]
  · intro p hp
    cases p with
    | nil => exact absurd (List.Perm.eq_nil (hp.symm)) hne
    | cons k q =>
      have hk : k ∈ left := hp.mem_iff.mp (List.mem_cons_self)
      obtain ⟨j, hj⟩ := List.getElem?_of_mem hk
      obtain ⟨r', h1, h2⟩ := h j k hj
      have hq : q.Perm (left.filter (· != k)) := by
        have := (hp.trans (hsub k hk))
        exact (List.perm_cons k).mp this
      have := hmin j _ h1
      have := h2.low q hq
      rw [cost]; omega
end Mine
end

section
/-! F9: _law_round, walked. -/
set_option maxRecDepth 100000
set_option maxHeartbeats 4000000
namespace Mine
open PySem PySem.Calls PyProof.Rows PySem.W PySem.Builtin

section
variable {prog : Program} {w : World} {A : Around} {H : Heap} {mg mb : PySem.Str → Option Value} {F : Fz} {s : Shared} {f : Addr} {fd : FuncData}

theorem eqListS {c : Cx} {mu : Mu} {vs : List Value} {l l2 : Addr} {Q : Value → Shared → Prop} {E : Value → Shared → Prop} (S : St0 c F mu s) (hl : SList F (.ref l) vs) (hl2 : SList F (.ref l2) []) (hu : A.units < cLine) (h : Q (.bool (decide (vs = []))) s) :
    wpAny (model prog w) A (compareOp .Eq (.ref l) (.ref l2)) Q E s := by
  cases vs with
  | nil =>
    exact SeqAt.RcAt.lists (e := fun _ => true) (hl.isList S.inn) (hl2.isList S.inn) rfl hu (fun j h1 _ => absurd h1 (by simp)) prog w E Q (by simpa using h)
  | cons v r =>
    exact SeqAt.RcAt.lists_lengths (hl.isList S.inn) (hl2.isList S.inn) (by simp) hu prog w E Q (by simpa using h)

theorem keepF {H : Heap} {mg : PySem.Str → Option Value} {name : PySem.Str} {st : Stmt} {f : Addr} {fd : FuncData} (X : FnAt H mg name st f fd) {c c' : Cx} {F F' : Fz} {mu mu' : Mu} {s s' : Shared} (S : St0 c F mu s) (S' : St0 c' F' mu' s') (h : c.base = H) (h' : c'.base = H) :
    ∀ o, s.heap.get? f = some o → s'.heap.get? f = some o := fun o ho => by
  obtain ⟨o', ho', _⟩ := X.obj
  rw [S.keepsH _ _ (h ▸ ho')] at ho
  cases ho
  exact S'.keepsH _ _ (h' ▸ ho')

theorem roundC (B : Bs H mg mb) (G : Gl mg) (X : FnAt H mg "_law_round" (nth 21) f fd) (n home : Nat) (M : Nat → Nat → Int) (hho : home < n) (hn : n ≤ 6) : ∀ (d : Nat) (A : Around) (F : Fz) (s : Shared) (left : List Nat) (here : Nat) (t1 t2 : Tok) (ll : Addr) (vs : List Value) (sv : Value),
    d ≤ 10 → left.length = d → left.Nodup → (∀ k ∈ left, k < n) → here < n → Pre H F s → Rm A (d + 4) → SList F (.ref ll) vs → NatsAre left vs → Mat F sv n M →
    codeAny (model prog w) A (.call (.ref f) ⟨[.int here t1, .ref ll, sv, .int home t2], []⟩) (Res s F fun _ v => ∃ r t, v = .int r t ∧ RoundIs M home here left r) s := by
  intro d
  induction d with
  | zero =>
    intro A F s left here t1 t2 ll vs sv hd10 hd hnd hlt hhe p hr hl hv hM
    obtain rfl : left = [] := List.length_eq_zero_iff.mp hd
    obtain rfl : vs = [] := by cases hv; rfl
    refine enterC B X p hr (X.bindW (binds := [("here", .int here t1), ("left", .ref ll), ("steps", sv), ("home", .int home t2)]) (fun _ _ _ _ _ _ _ _ _ _ _ _ => rfl) ?_)
    refine ⟨F, .refl _, p.start, ?_, fun env s₂ he hc S₂ hr' => ?_⟩
    · intro x hx
      simp only [List.mem_cons, List.not_mem_nil, or_false] at hx
      rcases hx with rfl | rfl | rfl | rfl
      · exact .inr ⟨rfl, rfl⟩
      · exact .inr ⟨rfl, rfl⟩
      · exact .inr ⟨rfl, rfl⟩
      · exact .inr ⟨rfl, rfl⟩
    have ec : env.cells = [(("home" : PySem.Str), env.locals + 1 + 1 + 1 + 1), (("steps" : PySem.Str), env.locals + 1 + 1 + 1), (("left" : PySem.Str), env.locals + 1 + 1), (("here" : PySem.Str), env.locals + 1)] := by rw [hc]; rfl
    rw [ec] at S₂
    generalize env.locals + 1 + 1 + 1 + 1 = a4 at ec S₂
    generalize env.locals + 1 + 1 + 1 = a3 at ec S₂
    generalize env.locals + 1 + 1 = a2 at ec S₂
    generalize env.locals + 1 = a1 at ec S₂
    replace S₂ : St (cx H F s) F env.locals _ [(a4, cellIs (some (.int home t2))), (a3, cellIs (some sv)), (a2, cellIs (some (.ref ll))), (a1, cellIs (some (.int here t1)))] s₂ := S₂
    have c1 : env.cells.lookup ("here" : PySem.Str) = some a1 := by rw [ec]; rfl
    have c2 : env.cells.lookup ("left" : PySem.Str) = some a2 := by rw [ec]; rfl
    have c3 : env.cells.lookup ("steps" : PySem.Str) = some a3 := by rw [ec]; rfl
    have c4 : env.cells.lookup ("home" : PySem.Str) = some a4 := by rw [ec]; rfl
    refine wpAny_execs_cons (wpAny_If (wpAny_isTrue_Compare1 (ldc' he c2 (S₂.cell (v := some (.ref ll)) (by simp)) (List_ (args_nil (newListF S₂ (by simp) fun e0 F₁ s3 hle S3 he0 => ?_))))))
    refine eqListS S3 (hl.le hle) he0 (hr'.le (by omega : 1 ≤ 3)).c (wpAny_truthy_bool ?_)
    rw [decide_eq_true rfl, if_pos rfl]
    obtain ⟨vs2, hvs2, hvl2, hrow⟩ := hM.le hle
    obtain ⟨rv, ws, hrv, hws, hcol⟩ := hrow here hhe
    obtain ⟨tm, hcm⟩ := hcol home hho
    refine wpAny_execs_cons ?_
    refine wpAny_Return_some ?_
    refine subS ?_
    refine subS ?_
    refine ldc' he c3 (S3.cell (v := some sv) (by simp)) (ldc' he c1 (S3.cell (v := some (.int here t1)) (by simp)) ?_)
    refine ⟨_, _, _, _, _, here, t1, S3, hvs2, rfl, by omega, hrv, ?_⟩
    refine ldc' he c4 (S3.cell (v := some (.int home t2)) (by simp)) ?_
    refine ⟨_, _, _, _, _, home, t2, S3, hws, rfl, by omega, hcm, ?_⟩
    refine ⟨_, _, S3, M here home, tm, rfl, ⟨[], .refl _, rfl⟩, fun p hp => ?_⟩
    rw [List.Perm.eq_nil hp]
    exact Int.le_refl _
  | succ d ih =>
    intro A F s left here t1 t2 ll vs sv hd10 hd hnd hlt hhe p hr hl hv hM
    refine enterC B X p hr (X.bindW (binds := [("here", .int here t1), ("left", .ref ll), ("steps", sv), ("home", .int home t2)]) (fun _ _ _ _ _ _ _ _ _ _ _ _ => rfl) ?_)
    refine ⟨F, .refl _, p.start, ?_, fun env s₂ he hc S₂ hr' => ?_⟩
    · intro x hx
      simp only [List.mem_cons, List.not_mem_nil, or_false] at hx
      rcases hx with rfl | rfl | rfl | rfl
      · exact .inr ⟨rfl, rfl⟩
      · exact .inr ⟨rfl, rfl⟩
      · exact .inr ⟨rfl, rfl⟩
      · exact .inr ⟨rfl, rfl⟩
    have ec : env.cells = [(("home" : PySem.Str), env.locals + 1 + 1 + 1 + 1), (("steps" : PySem.Str), env.locals + 1 + 1 + 1), (("left" : PySem.Str), env.locals + 1 + 1), (("here" : PySem.Str), env.locals + 1)] := by rw [hc]; rfl
    rw [ec] at S₂
    generalize env.locals + 1 + 1 + 1 + 1 = a4 at ec S₂
    generalize env.locals + 1 + 1 + 1 = a3 at ec S₂
    generalize env.locals + 1 + 1 = a2 at ec S₂
    generalize env.locals + 1 = a1 at ec S₂
    replace S₂ : St (cx H F s) F env.locals _ [(a4, cellIs (some (.int home t2))), (a3, cellIs (some sv)), (a2, cellIs (some (.ref ll))), (a1, cellIs (some (.int here t1)))] s₂ := S₂
    have hh : (A.deeper env).handled = none := hr'.hd
    have c1 : env.cells.lookup ("here" : PySem.Str) = some a1 := by rw [ec]; rfl
    have c2 : env.cells.lookup ("left" : PySem.Str) = some a2 := by rw [ec]; rfl
    have c3 : env.cells.lookup ("steps" : PySem.Str) = some a3 := by rw [ec]; rfl
    have c4 : env.cells.lookup ("home" : PySem.Str) = some a4 := by rw [ec]; rfl
    have hne : left ≠ [] := fun e => by rw [e] at hd; cases hd
    have hvl : left.length = vs.length := hv.length
    have hvne : vs ≠ [] := fun e => by rw [e, hd] at hvl; simp at hvl
    -- if left == []
    refine execsNext (wpAny_If (wpAny_isTrue_Compare1 (ldc' he c2 (S₂.cell (v := some (.ref ll)) (by simp)) (List_ (args_nil (newListF S₂ (by simp) fun e0 F₁ s3 hle S3 he0 => ?_))))))
    refine eqListS S3 (hl.le hle) he0 (hr'.le (by omega : 1 ≤ d + 4)).c (wpAny_truthy_bool ?_)
    rw [decide_eq_false hvne, if_neg Bool.false_ne_true]
    refine wpAny_execs_nil ⟨rfl, ?_⟩
    -- return min([..])
    refine wpAny_execs_cons ?_
    refine wpAny_Return_some ?_
    refine cB1 (fun _ h => ldB S3 B G he h) ?_
    have hl1 := hl.le hle
    have hM1 := hM.le hle
    refine lcompY (x := "k") (cl := [(("steps" : PySem.Str), a3), (("left" : PySem.Str), a2), (("home" : PySem.Str), a4), (("here" : PySem.Str), a1)]) he (by rw [ec]; rfl) rfl (by rfl) (fun _ _ => rfl) (fun _ => rfl)
      (fun kc i F ys ex => ∃ v0, ex = [(kc, cellIs v0)] ∧ ∃ rs : List Int, Paired (fun r v => ∃ t, v = .int r t) rs ys ∧ rs.length = i ∧ ∀ (j k : Nat), j < i → left[j]? = some k → ∃ r, rs[j]? = some (M here k + r) ∧ RoundIs M home k (left.filter (· != k)) r)
      (ldc' he c2 (S3.cell (v := some (.ref ll)) (by simp)) ?_)
    refine ⟨_, _, _, _, _, S3, itList hh hl1, by omega, fun kc => ⟨none, rfl, [], .nil, rfl, fun j k h => absurd h (Nat.not_lt_zero _)⟩, ?_, ?_⟩
    · rintro cenv kc i v I K D m F' ys ex s' heC hcC hi hv' hle' ⟨v0, rfl, rs, hrs, hrl, hrr⟩ hys S'
      obtain ⟨k, t, hk, hvk⟩ : ∃ k t, left[i]? = some k ∧ v = .int (k : Nat) t := by
        obtain ⟨k, v', h1, h2, t, h3⟩ := Paired.get hv i (by omega)
        rw [hv'] at h2; cases h2
        exact ⟨k, t, h1, h3⟩
      subst hvk
      have hkl : k ∈ left := List.mem_of_getElem? hk
      have hkn := hlt k hkl
      have S4 : St (cx (cx H F s).base F₁ s3) F' cenv.locals m [(kc, cellIs v0), (I, K), (D, lst ys)] s' := by
        refine S'.perm (List.Perm.cons _ ?_)
        exact (List.perm_append_comm (l₁ := [(I, K), (D, lst ys)]) (l₂ := [(kc, cellIs v0)]))
      have hkC : cenv.cells.lookup ("k" : PySem.Str) = some kc := by rw [hcC]; rfl
      refine wpAny_assign_Name (stc' S4 heC hkC fun s5 S5 => wpAny_tests_nil ?_)
      rw [if_pos rfl]
      have C1 : ∀ {F : Fz} {mu : Mu} {s : Shared}, St0 (cx (cx H F s).base F₁ s3) F mu s → True := fun _ => trivial
      have k1 : cenv.cells.lookup ("here" : PySem.Str) = some a1 := by rw [hcC]; rfl
      have k2 : cenv.cells.lookup ("left" : PySem.Str) = some a2 := by rw [hcC]; rfl
      have k3 : cenv.cells.lookup ("steps" : PySem.Str) = some a3 := by rw [hcC]; rfl
      have k4 : cenv.cells.lookup ("home" : PySem.Str) = some a4 := by rw [hcC]; rfl
      have o1 := S3.cell (a := a1) (v := some (.int here t1)) (by simp)
      have o2 := S3.cell (a := a2) (v := some (.ref ll)) (by simp)
      have o3 := S3.cell (a := a3) (v := some sv) (by simp)
      have o4 := S3.cell (a := a4) (v := some (.int home t2)) (by simp)
      obtain ⟨vs2, hvs2, hvl2, hrow⟩ := hM1.le hle'
      obtain ⟨rv, ws, hrv, hws, hcol⟩ := hrow here hhe
      obtain ⟨tm, hcm⟩ := hcol k hkn
      refine wpAny_BinOp ?_
      refine subS ?_
      refine subS ?_
      refine ldc' heC k3 (oldCell S5 o3) (ldc' heC k1 (oldCell S5 o1) ?_)
      refine ⟨_, _, _, _, _, here, t1, S5, hvs2, rfl, by omega, hrv, ?_⟩
      refine ldc' heC hkC (S5.cell (v := some (.int (k : Nat) t)) (by simp)) ?_
      refine ⟨_, _, _, _, _, k, t, S5, hws, rfl, by omega, hcm, ?_⟩
      -- the call
      refine cF S5 rfl B X heC (args_cons (ldc' heC hkC (S5.cell (v := some (.int (k : Nat) t)) (by simp)) (args_cons ?_)))
      refine lcomp (cl := [(("k" : PySem.Str), kc)]) hh heC (by rw [hcC]; rfl) (by rfl) (fun i F ys => NatsAre ((left.take i).filter (· != k)) ys) (fun _ _ _ _ _ h => h) (ldc' heC k2 (oldCell S5 o2) ?_)
      refine ⟨_, _, _, _, _, S5, itList hh (hl1.le hle'), by omega, .nil, ?_, ?_⟩
      · intro cenv2 i2 v2 I2 K2 D2 m2 F2 ys2 s6 heC2 hcC2 hi2 hv2 hle2 hJ2 hys2 S6
        obtain ⟨j, tj, hj, hvj⟩ : ∃ j t, left[i2]? = some j ∧ v2 = .int (j : Nat) t := by
          obtain ⟨k, v', h1, h2, t, h3⟩ := Paired.get hv i2 (by omega)
          rw [hv2] at h2; cases h2
          exact ⟨k, t, h1, h3⟩
        subst hvj
        refine wpAny_assign_Name (st' S6 heC2 fun s7 S7 => wpAny_tests_one ?_)
        have hkC2 : cenv2.cells.lookup ("k" : PySem.Str) = some kc := by rw [hcC2]; rfl
        refine wpAny_isTrue_Compare1 (ld' S7 heC2 rfl (ldc' heC2 hkC2 (oldCell S7 (S5.cell (v := some (.int (k : Nat) t)) (by simp))) (P.ne_int (wpAny_truthy_bool ?_))))
        rw [take_snoc hj, List.filter_append]
        by_cases hjk : j = k
        · have e : (((j : Nat) : Int) != ((k : Nat) : Int)) = false := by simp [hjk]
          rw [e, if_neg Bool.false_ne_true]
          refine ⟨_, F2, .refl _, S7, ?_⟩
          rw [List.filter_cons_of_neg (by simp [hjk])]
          simpa using hJ2
        · have e : (((j : Nat) : Int) != ((k : Nat) : Int)) = true := by simp; omega
          rw [e, if_pos rfl]
          refine ld' S7 heC2 rfl ⟨_, F2, .refl _, S7, ?_⟩
          rw [List.filter_cons_of_pos (by simp [hjk])]
          exact hJ2.snoc ⟨tj, rfl⟩
      intro D2 F2 ys2 s6 hle2 S6 hD2 hJ2 hlen2
      have hJ3 : NatsAre (left.filter (· != k)) ys2 := by rwa [List.take_of_length_le (by omega)] at hJ2
      refine args_cons (ldc' heC k3 (oldCell S6 o3) (args_cons (ldc' heC k4 (oldCell S6 o4) (args_nil ?_))))
      refine ⟨keepF X S5 S6 rfl rfl, ?_⟩
      have hfl : (left.filter (· != k)).length = d := by
        rw [← List.Nodup.erase_eq_filter hnd, List.length_erase_of_mem hkl, hd]; rfl
      refine callS S6 (ih (A.deeper env) F2 s6 (left.filter (· != k)) k t t2 D2 ys2 sv (by omega) hfl (hnd.filter _) (fun q hq => hlt q (List.mem_filter.mp hq).1) hkn S6.pre hr' hD2 hJ3 ((hM1.le hle').le hle2)) fun v F3 s7 hle3 S7 hv3 => ?_
      obtain ⟨r, tr, rfl, hR⟩ := hv3
      refine addI S7 fun s8 t8 S8 => ?_
      refine ⟨m, F3, [(kc, cellIs (some (.int (k : Nat) t)))], hle2.trans hle3, ?_, _, rfl, rs ++ [M here k + r], hrs.snoc ⟨t8, rfl⟩, by simp [hrl], fun j q hj hq => ?_⟩
      · refine S8.perm (List.Perm.cons _ ?_)
        exact (List.perm_append_comm (l₁ := [(kc, cellIs (some (.int (k : Nat) t)))]) (l₂ := [(I, K), (D, lst ys)]))
      · by_cases hji : j = i
        · subst hji
          rw [hk] at hq; cases hq
          refine ⟨r, ?_, hR⟩
          rw [List.getElem?_append_right (by omega), hrl]; simp
        · obtain ⟨r', h1, h2⟩ := hrr j q (by omega) hq
          exact ⟨r', by rw [List.getElem?_append_left (by omega)]; exact h1, h2⟩
    intro D kc F2 F3 ys ex s4 hle2 hle3 S4 hD hJ hlen
    obtain ⟨v0, rfl, rs, hrs, hrl, hrr⟩ := hJ
    have hyl := hrs.length
    have item : ∀ (i : Nat) (v : Value), ys[i]? = some v → ∃ r t, rs[i]? = some r ∧ v = .int r t := fun i v hv => by
      obtain ⟨r, v', h1, h2, t, h3⟩ := Paired.get hrs i (by rw [hyl]; exact (List.getElem?_eq_some_iff.mp hv).1)
      rw [hv] at h2; cases h2
      exact ⟨r, t, h1, h3⟩
    refine minS S4 (itList (show (A.deeper env).in1.handled = none from hh) hD) (by rw [← hyl, hrl, ← hvl, hd]; omega) (fun i j => decide ((fun i => rs.getD i 0) i < (fun i => rs.getD i 0) j)) (fun i j vi vj s Q E hi hj _ h1 h2 hq => ?_) fun v s5 hv5 S5 => ?_
    · obtain ⟨r1, u1, e1, rfl⟩ := item i vi h1
      obtain ⟨r2, u2, e2, rfl⟩ := item j vj h2
      refine P.lt_int ?_
      have q1 : rs.getD i 0 = r1 := by rw [List.getD_eq_getElem?_getD, e1]; rfl
      have q2 : rs.getD j 0 = r2 := by rw [List.getD_eq_getElem?_getD, e2]; rfl
      have e : decide ((fun i => rs.getD i 0) i < (fun i => rs.getD i 0) j) = decide (r1 < r2) := decide_eq_decide.mpr (by
        show rs.getD i 0 < rs.getD j 0 ↔ _
        rw [q1, q2])
      rw [e] at hq
      exact hq
    obtain ⟨r, t, e1, rfl⟩ := item _ v hv5
    obtain ⟨b1, b2⟩ := argBest_min (fun i => rs.getD i 0) (ys.length - 1)
    refine ⟨_, F3, S5, r, t, rfl, round_min hnd hne (by rw [hrl, hvl]) (fun i k hk => hrr i k (by rw [← hvl]; exact (List.getElem?_eq_some_iff.mp hk).1) hk) e1 fun j r' hj => ?_⟩
    have hjl := (List.getElem?_eq_some_iff.mp hj).1
    have := b2 j (by omega)
    have q1 : rs.getD (argBest (fun i j => decide ((fun i => rs.getD i 0) i < (fun i => rs.getD i 0) j)) (ys.length - 1)) 0 = r := by rw [List.getD_eq_getElem?_getD, e1]; rfl
    have q2 : rs.getD j 0 = r' := by rw [List.getD_eq_getElem?_getD, hj]; rfl
    dsimp only at this q1
    rw [q1, q2] at this
    exact this
end
end Mine
end

section
/-! Q1: the model's hash table of a set, plain. -/
set_option maxRecDepth 100000
set_option maxHeartbeats 4000000
namespace Mine
open PySem

/-! ### the way of a probe -/
def adv (mask : Nat) (p : SetTable.Probe) : SetTable.Probe :=
  if p.more > 0 then { p with j := p.j + 1, more := p.more - 1 } else
  { p with j := (SetTable.leap mask p.i p.perturb).1, more := SetTable.runEnd mask (SetTable.leap mask p.i p.perturb).1 - (SetTable.leap mask p.i p.perturb).1, i := (SetTable.leap mask p.i p.perturb).1, perturb := (SetTable.leap mask p.i p.perturb).2 }
theorem advance_eq (t : SetTable) (p : SetTable.Probe) : t.advance p = adv t.mask p := rfl
def runP (mask i perturb : Nat) : SetTable.Probe := { j := i, more := SetTable.runEnd mask i - i, i := i, perturb := perturb, dummy := none }
/-- the k-th probe -/
def PP (mask : Nat) (h : Int) : Nat → SetTable.Probe
  | 0 => runP mask (SetTable.bits h % (mask + 1)) (SetTable.bits h)
  | k + 1 => adv mask (PP mask h k)
def pos (mask : Nat) (h : Int) (k : Nat) : Nat := (PP mask h k).j
theorem probeStart_eq (t : SetTable) (h : Int) : t.probeStart h = PP t.mask h 0 := rfl
/-- the r-th run -/
def run (mask : Nat) (h : Int) : Nat → Nat × Nat
  | 0 => (SetTable.bits h % (mask + 1), SetTable.bits h)
  | r + 1 => SetTable.leap mask (run mask h r).1 (run mask h r).2
def len (mask i : Nat) : Nat := SetTable.runEnd mask i - i
def Kr (mask : Nat) (h : Int) : Nat → Nat
  | 0 => 0
  | r + 1 => Kr mask h r + len mask (run mask h r).1 + 1
theorem len_le (mask i : Nat) : len mask i ≤ 9 := by unfold len SetTable.runEnd; split <;> omega
theorem Kr_le (mask : Nat) (h : Int) : ∀ r, Kr mask h r ≤ 10 * r
  | 0 => Nat.le_refl _
  | r + 1 => by have := Kr_le mask h r; have := len_le mask (run mask h r).1; unfold Kr; omega
theorem adv_n (mask i perturb : Nat) : ∀ k, k ≤ len mask i → (Nat.rec (runP mask i perturb) (fun _ p => adv mask p) k : SetTable.Probe) = { runP mask i perturb with j := i + k, more := len mask i - k }
  | 0, _ => rfl
  | k + 1, hk => by
    show adv mask (Nat.rec (runP mask i perturb) (fun _ p => adv mask p) k : SetTable.Probe) = _
    rw [adv_n mask i perturb k (by omega)]
    unfold adv
    rw [if_pos (by show len mask i - k > 0; omega)]
    rfl
theorem PP_add (mask : Nat) (h : Int) (K : Nat) : ∀ k, PP mask h (K + k) = (Nat.rec (PP mask h K) (fun _ p => adv mask p) k : SetTable.Probe)
  | 0 => rfl
  | k + 1 => by
    show adv mask (PP mask h (K + k)) = _
    rw [PP_add mask h K k]
theorem PP_run (mask : Nat) (h : Int) : ∀ r, PP mask h (Kr mask h r) = runP mask (run mask h r).1 (run mask h r).2
  | 0 => rfl
  | r + 1 => by
    have ih := PP_run mask h r
    show PP mask h (Kr mask h r + len mask (run mask h r).1 + 1) = _
    show adv mask (PP mask h (Kr mask h r + len mask (run mask h r).1)) = _
    rw [PP_add, ih, adv_n _ _ _ _ (Nat.le_refl _)]
    unfold adv
    rw [if_neg (by show ¬ (len mask _ - len mask _ > 0); omega)]
    rfl
theorem pos_run (mask : Nat) (h : Int) (r k : Nat) (hk : k ≤ len mask (run mask h r).1) : pos mask h (Kr mask h r + k) = (run mask h r).1 + k := by
  unfold pos
  rw [PP_add, PP_run, adv_n _ _ _ _ hk]
theorem PP_dummy (mask : Nat) (h : Int) : ∀ k, (PP mask h k).dummy = none
  | 0 => rfl
  | k + 1 => by
    have := PP_dummy mask h k
    show (adv mask (PP mask h k)).dummy = none
    unfold adv; split <;> exact this
theorem run_lt (mask : Nat) (h : Int) : ∀ r, (run mask h r).1 < mask + 1
  | 0 => Nat.mod_lt _ (Nat.succ_pos _)
  | _ + 1 => Nat.mod_lt _ (Nat.succ_pos _)

/-! ### the runs come everywhere -/
def lcg (mask : Nat) (i : Nat) : Nat := (i * 5 + 1) % (mask + 1)
def orb (mask : Nat) : Nat → Nat
  | 0 => 0
  | m + 1 => lcg mask (orb mask m)
theorem bits_lt (h : Int) : SetTable.bits h < 2 ^ 64 := by
  unfold SetTable.bits
  have h1 := Int.emod_nonneg h (by decide : (2 ^ 64 : Int) ≠ 0)
  have h2 := Int.emod_lt_of_pos h (by decide : (0 : Int) < 2 ^ 64)
  omega
theorem run_pert (mask : Nat) (h : Int) : ∀ r, (run mask h r).2 = SetTable.bits h / 32 ^ r
  | 0 => by simp [run]
  | r + 1 => by
    show (run mask h r).2 / 32 = _
    rw [run_pert mask h r, Nat.div_div_eq_div_mul, Nat.pow_succ]
theorem run_zero (mask : Nat) (h : Int) (r : Nat) (hr : 12 ≤ r) : (run mask h (r + 1)).1 = lcg mask (run mask h r).1 := by
  show ((run mask h r).1 * 5 + 1 + (run mask h r).2 / 32) % (mask + 1) = _
  have e : (run mask h r).2 / 32 = 0 := by
    rw [run_pert, Nat.div_div_eq_div_mul, ← Nat.pow_succ]
    refine Nat.div_eq_of_lt (Nat.lt_of_lt_of_le (bits_lt h) ?_)
    have : 32 ^ 13 ≤ 32 ^ (r + 1) := Nat.pow_le_pow_right (by decide) (by omega)
    exact Nat.le_trans (by decide) this
  rw [e, Nat.add_zero]; rfl
def goodMask (mask : Nat) : Bool := (List.range (mask + 1)).all (fun j => (List.range (mask + 1)).any fun m => orb mask m == j) && orb mask (mask + 1) == 0
theorem good7 : goodMask 7 = true := by decide +kernel
theorem good31 : goodMask 31 = true := by decide +kernel
theorem good127 : goodMask 127 = true := by decide +kernel
theorem orb_period {mask : Nat} (hg : orb mask (mask + 1) = 0) : ∀ m, orb mask (mask + 1 + m) = orb mask m
  | 0 => hg
  | m + 1 => by
    show lcg mask (orb mask (mask + 1 + m)) = lcg mask (orb mask m)
    rw [orb_period hg m]
theorem run_orb (mask : Nat) (h : Int) (m0 : Nat) (h0 : (run mask h 12).1 = orb mask m0) : ∀ k, (run mask h (12 + k)).1 = orb mask (m0 + k)
  | 0 => h0
  | k + 1 => by
    show (run mask h (12 + k + 1)).1 = lcg mask (orb mask (m0 + k))
    rw [run_zero mask h (12 + k) (by omega), run_orb mask h m0 h0 k]
theorem cover {mask : Nat} (hg : goodMask mask = true) (h : Int) {j : Nat} (hj : j ≤ mask) : ∃ r, r < SetTable.turns mask ∧ (run mask h r).1 = j := by
  unfold goodMask at hg
  rw [Bool.and_eq_true, List.all_eq_true] at hg
  obtain ⟨h1, h2⟩ := hg
  have h2 : orb mask (mask + 1) = 0 := by simpa using h2
  have all : ∀ j, j ≤ mask → ∃ m, m ≤ mask ∧ orb mask m = j := fun j hj => by
    have := h1 j (List.mem_range.mpr (by omega))
    rw [List.any_eq_true] at this
    obtain ⟨m, hm, e⟩ := this
    exact ⟨m, by have := List.mem_range.mp hm; omega, by simpa using e⟩
  obtain ⟨m0, hm0, e0⟩ := all (run mask h 12).1 (by have := run_lt mask h 12; omega)
  obtain ⟨m1, hm1, e1⟩ := all j hj
  have key := run_orb mask h m0 e0.symm
  unfold SetTable.turns
  by_cases hc : m0 ≤ m1
  · refine ⟨12 + (m1 - m0), by omega, ?_⟩
    rw [key, show m0 + (m1 - m0) = m1 by omega, e1]
  · refine ⟨12 + (mask + 1 + m1 - m0), by omega, ?_⟩
    rw [key, show m0 + (mask + 1 + m1 - m0) = mask + 1 + m1 by omega, orb_period h2, e1]
end Mine
end

section
/-! Q2: places, slots, the search, an insertion. -/
set_option maxRecDepth 100000
set_option maxHeartbeats 4000000
namespace Mine
open PySem

abbrev Up (l : List Nat) : Prop := l.Pairwise (· < ·)
theorem up_lt {l : List Nat} (h : Up l) {i j : Nat} {a b : Nat} (ha : l[i]? = some a) (hb : l[j]? = some b) (hij : i < j) : a < b := by
  obtain ⟨h1, e1⟩ := List.getElem?_eq_some_iff.mp ha
  obtain ⟨h2, e2⟩ := List.getElem?_eq_some_iff.mp hb
  rw [← e1, ← e2]
  exact List.pairwise_iff_getElem.mp h i j h1 h2 hij

theorem below_go (xs : Array Nat) (j : Nat) (h : Up xs.toList) : ∀ (fuel lo hi : Nat), hi - lo ≤ fuel → lo ≤ hi → hi ≤ xs.size →
    (∀ i, i < lo → ∀ a, xs.toList[i]? = some a → a < j) → (∀ i, hi ≤ i → ∀ a, xs.toList[i]? = some a → j ≤ a) →
    SetTable.below.go xs j fuel lo hi ≤ xs.size ∧ (∀ i, i < SetTable.below.go xs j fuel lo hi → ∀ a, xs.toList[i]? = some a → a < j) ∧ (∀ i, SetTable.below.go xs j fuel lo hi ≤ i → ∀ a, xs.toList[i]? = some a → j ≤ a)
  | 0, lo, hi, h1, h2, h3, h4, h5 => by
    have : lo = hi := by omega
    subst this
    exact ⟨h3, h4, h5⟩
  | fuel + 1, lo, hi, h1, h2, h3, h4, h5 => by
    unfold SetTable.below.go
    by_cases hc : lo < hi
    · rw [if_pos hc]
      dsimp only
      have hm : (lo + hi) / 2 < xs.size := by omega
      have hget : xs.toList[(lo + hi) / 2]? = some (xs.getD ((lo + hi) / 2) j) := by
        simp [Array.getD, hm]
      by_cases hx : xs.getD ((lo + hi) / 2) j < j
      · rw [if_pos hx]
        refine below_go xs j h fuel _ hi (by omega) (by omega) h3 (fun i hi' a ha => ?_) h5
        by_cases e : i = (lo + hi) / 2
        · subst e; rw [hget] at ha; cases ha; exact hx
        · have := up_lt h ha hget (by omega); omega
      · rw [if_neg hx]
        refine below_go xs j h fuel lo _ (by omega) (by omega) (by omega) h4 (fun i hi' a ha => ?_)
        by_cases e : i = (lo + hi) / 2
        · subst e; rw [hget] at ha; cases ha; omega
        · have := up_lt h hget ha (by omega); omega
    · rw [if_neg hc]
      have : lo = hi := by omega
      subst this
      exact ⟨h3, h4, h5⟩
theorem below_spec {xs : Array Nat} (h : Up xs.toList) (j : Nat) : SetTable.below xs j ≤ xs.size ∧ (∀ i, i < SetTable.below xs j → ∀ a, xs.toList[i]? = some a → a < j) ∧ (∀ i, SetTable.below xs j ≤ i → ∀ a, xs.toList[i]? = some a → j ≤ a) :=
  below_go xs j h xs.size 0 xs.size (by omega) (by omega) (Nat.le_refl _) (fun i hi => absurd hi (Nat.not_lt_zero _)) fun i hi a ha => by
    have := (List.getElem?_eq_some_iff.mp ha).1
    rw [Array.length_toList] at this
    omega
theorem below_at {xs : Array Nat} (h : Up xs.toList) {i j : Nat} (hi : xs.toList[i]? = some j) : SetTable.below xs j = i := by
  obtain ⟨b1, b2, b3⟩ := below_spec h j
  rcases Nat.lt_trichotomy i (SetTable.below xs j) with hlt | e | hgt
  · exact absurd (b2 i hlt j hi) (Nat.lt_irrefl _)
  · exact e.symm
  · have hlt : SetTable.below xs j < xs.toList.length := Nat.lt_trans hgt (List.getElem?_eq_some_iff.mp hi).1
    have ha := List.getElem?_eq_getElem hlt
    have := up_lt h ha hi hgt
    have := b3 _ (Nat.le_refl _) _ ha
    omega

/-- a table in order: its places rise, nothing was taken out, each thing lies on the way of its hash -/
structure Ok (t : SetTable) (hs : List Int) : Prop where
  len : t.place.toList.length = hs.length
  up : Up t.place.toList
  bd : ∀ j ∈ t.place.toList, j ≤ t.mask
  dum : t.dummies = #[]
  msk : goodMask t.mask = true
  room : hs.length < t.mask + 1
  reach : ∀ (i : Nat) (j : Nat) (h : Int), t.place.toList[i]? = some j → hs[i]? = some h → ∃ k, pos t.mask h k = j ∧ ∀ k', k' < k → pos t.mask h k' ∈ t.place.toList

theorem slot_live {t : SetTable} (h : Up t.place.toList) {i j : Nat} (hi : t.place.toList[i]? = some j) : t.slot j = .live i := by
  unfold SetTable.slot
  rw [below_at h hi]
  have e : t.place[i]? = some j := by rw [← Array.getElem?_toList]; exact hi
  dsimp only
  rw [e, if_pos (by simp)]
theorem slot_empty {t : SetTable} (hd : t.dummies = #[]) {j : Nat} (hj : j ∉ t.place.toList) : t.slot j = .empty := by
  unfold SetTable.slot
  have e : ¬ ((t.place[SetTable.below t.place j]? == some j) = true) := fun e => hj (by
    have e : t.place[SetTable.below t.place j]? = some j := by simpa using e
    rw [← Array.getElem?_toList] at e
    exact List.mem_of_getElem? e)
  dsimp only
  rw [if_neg e, hd]
  rfl

theorem go_run (t : SetTable) (hashAt : Nat → Int) (h : Int) : ∀ (fuel k K : Nat), k ≤ K → K - k < fuel →
    (∀ k', k ≤ k' → k' < K → ∃ i, t.slot (pos t.mask h k') = .live i ∧ hashAt i ≠ h) →
    (t.slot (pos t.mask h K) = .empty → SetTable.probe.go t hashAt h fuel (PP t.mask h k) = some (.empty (pos t.mask h K) none)) ∧
    (∀ i, t.slot (pos t.mask h K) = .live i → hashAt i = h → SetTable.probe.go t hashAt h fuel (PP t.mask h k) = some (.candidate (pos t.mask h K) i (PP t.mask h (K + 1))))
  | 0, k, K, _, h2, _ => absurd h2 (Nat.not_lt_zero _)
  | fuel + 1, k, K, h1, h2, h3 => by
    unfold SetTable.probe.go
    by_cases e : k = K
    · subst e
      constructor
      · intro he
        have he' : t.slot (PP t.mask h k).j = .empty := he
        rw [he']
        dsimp only
        rw [PP_dummy]; rfl
      · intro i hi hh
        have hi' : t.slot (PP t.mask h k).j = .live i := hi
        rw [hi']
        dsimp only
        rw [hh, if_pos (by simp)]
        rfl
    · obtain ⟨i, hi, hn⟩ := h3 k (Nat.le_refl _) (by omega)
      have hi' : t.slot (PP t.mask h k).j = .live i := hi
      rw [hi']
      dsimp only
      rw [if_neg (by simpa using hn)]
      exact go_run t hashAt h fuel (k + 1) K (by omega) (by omega) fun k' a b => h3 k' (by omega) b

theorem nodup_len {α : Type} [DecidableEq α] : ∀ (l m : List α), l.Nodup → (∀ x ∈ l, x ∈ m) → l.length ≤ m.length
  | [], _, _, _ => Nat.zero_le _
  | x :: r, m, hn, hs => by
    obtain ⟨h1, h2⟩ := List.nodup_cons.mp hn
    have hx := hs x (List.mem_cons_self)
    have := nodup_len r (m.erase x) h2 fun y hy => (List.mem_erase_of_ne (fun e : y = x => h1 (by rw [← e]; exact hy))).mpr (hs y (.tail _ hy))
    rw [List.length_erase_of_mem hx] at this
    have : 0 < m.length := List.length_pos_of_mem hx
    simp only [List.length_cons]
    omega
/-- there is an empty place on each way, and not far -/
theorem Ok.free {t : SetTable} {hs : List Int} (O : Ok t hs) (h : Int) : ∃ K, K < 10 * SetTable.turns t.mask ∧ pos t.mask h K ∉ t.place.toList ∧ ∀ k, k < K → pos t.mask h k ∈ t.place.toList := by
  have hex : ∃ j, j ≤ t.mask ∧ j ∉ t.place.toList := by
    by_cases hc : ∀ j, j ≤ t.mask → j ∈ t.place.toList
    · have := nodup_len (List.range (t.mask + 1)) t.place.toList List.nodup_range fun j hj => hc j (by have := List.mem_range.mp hj; omega)
      rw [List.length_range, O.len] at this
      have := O.room
      omega
    · rw [Classical.not_forall] at hc
      obtain ⟨j, hj⟩ := hc
      rw [Classical.not_imp] at hj
      exact ⟨j, hj⟩
  obtain ⟨j, hj, hjn⟩ := hex
  obtain ⟨r, hr, e⟩ := cover O.msk h hj
  have hK : pos t.mask h (Kr t.mask h r) ∉ t.place.toList := by
    have := pos_run t.mask h r 0 (Nat.zero_le _)
    rw [Nat.add_zero, Nat.add_zero] at this
    rw [this, e]; exact hjn
  -- the first one
  have first : ∀ n, (∃ k, k ≤ n ∧ pos t.mask h k ∉ t.place.toList) → ∃ K, K ≤ n ∧ pos t.mask h K ∉ t.place.toList ∧ ∀ k, k < K → pos t.mask h k ∈ t.place.toList := by
    intro n
    induction n with
    | zero =>
      rintro ⟨k, hk, hn⟩
      have : k = 0 := by omega
      subst this
      exact ⟨0, Nat.le_refl _, hn, fun k hk => absurd hk (Nat.not_lt_zero _)⟩
    | succ n ih =>
      rintro ⟨k, hk, hn⟩
      by_cases hc : ∃ k, k ≤ n ∧ pos t.mask h k ∉ t.place.toList
      · obtain ⟨K, a, b, c⟩ := ih hc
        exact ⟨K, by omega, b, c⟩
      · refine ⟨n + 1, Nat.le_refl _, ?_, fun k' hk' => ?_⟩
        · have : k = n + 1 := by
            rcases Nat.lt_or_ge k (n + 1) with h1 | h1
            · exact absurd ⟨k, by omega, hn⟩ hc
            · omega
          rw [← this]; exact hn
        · exact Classical.byContradiction fun hx => hc ⟨k', by omega, hx⟩
  obtain ⟨K, a, b, c⟩ := first _ ⟨_, Nat.le_refl _, hK⟩
  exact ⟨K, by have := Kr_le t.mask h r; omega, b, c⟩

theorem mem_ins {α : Type} {l : List α} {p : Nat} {x y : α} : y ∈ l.take p ++ x :: l.drop p ↔ y = x ∨ y ∈ l := by
  conv => rhs; rw [← List.take_append_drop p l]
  simp only [List.mem_append, List.mem_cons]
  constructor
  · rintro (h | h | h)
    · exact .inr (.inl h)
    · exact .inl h
    · exact .inr (.inr h)
  · rintro (h | h | h)
    · exact .inr (.inl h)
    · exact .inl h
    · exact .inr (.inr h)

/-- a new thing at the empty place -/
theorem Ok.put {t : SetTable} {hs : List Int} (O : Ok t hs) {h : Int} {K : Nat} (hK : pos t.mask h K ∉ t.place.toList) (hb : ∀ k, k < K → pos t.mask h k ∈ t.place.toList) (hj : pos t.mask h K ≤ t.mask) (hroom : hs.length + 1 < t.mask + 1) :
    Ok (t.put (pos t.mask h K)).1 (hs.take (t.put (pos t.mask h K)).2 ++ h :: hs.drop (t.put (pos t.mask h K)).2) := by
  generalize hjj : pos t.mask h K = j at hK hj
  obtain ⟨b1, b2, b3⟩ := below_spec O.up j
  have hdm : (t.put j).1.dummies = #[] := by
    show (if SetTable.has t.dummies j then _ else t.dummies) = _
    rw [O.dum]; rfl
  have hpl : (t.put j).1.place.toList = t.place.toList.take (SetTable.below t.place j) ++ j :: t.place.toList.drop (SetTable.below t.place j) := SetTable.toList_insertAt _ _ _
  have hp : (t.put j).2 = SetTable.below t.place j := rfl
  have hmk : (t.put j).1.mask = t.mask := rfl
  have hlen := O.len
  rw [Array.length_toList] at hlen
  refine ⟨?_, ?_, ?_, hdm, O.msk, ?_, ?_⟩
  · rw [hpl, hp]; simp; omega
  · rw [hpl]
    have hup := O.up
    rw [← List.take_append_drop (SetTable.below t.place j) t.place.toList] at hup
    obtain ⟨u1, u2, u3⟩ := List.pairwise_append.mp hup
    have blo : ∀ a ∈ t.place.toList.take (SetTable.below t.place j), a < j := fun a ha => by
      obtain ⟨i, hi⟩ := List.getElem?_of_mem ha
      rw [List.getElem?_take] at hi
      split at hi
      · exact b2 i (by assumption) a hi
      · cases hi
    have bhi : ∀ a ∈ t.place.toList.drop (SetTable.below t.place j), j < a := fun a ha => by
      have hne : a ≠ j := fun e => hK (e ▸ List.mem_of_mem_drop ha)
      obtain ⟨i, hi⟩ := List.getElem?_of_mem ha
      rw [List.getElem?_drop] at hi
      have := b3 _ (by omega) a hi
      omega
    refine List.pairwise_append.mpr ⟨u1, List.pairwise_cons.mpr ⟨bhi, u2⟩, fun a ha b hb' => ?_⟩
    rcases List.mem_cons.mp hb' with rfl | hb'
    · exact blo a ha
    · exact Nat.lt_trans (blo a ha) (bhi b hb')
  · intro a ha
    rw [hpl] at ha
    rcases mem_ins.mp ha with rfl | ha
    · exact hj
    · exact O.bd a ha
  · rw [hp, hmk]
    simp only [List.length_append, List.length_take, List.length_cons, List.length_drop]
    omega
  · intro i a h' ha hh
    rw [hpl] at ha
    rw [hp] at hh
    have mono : ∀ x, x ∈ t.place.toList → x ∈ (t.put j).1.place.toList := fun x hx => by rw [hpl]; exact mem_ins.mpr (.inr hx)
    rw [hmk]
    have old : ∀ i', t.place.toList[i']? = some a → hs[i']? = some h' → ∃ k, pos t.mask h' k = a ∧ ∀ k', k' < k → pos t.mask h' k' ∈ (t.put j).1.place.toList := fun i' x1 x2 => by
      obtain ⟨k, k1, k2⟩ := O.reach i' a h' x1 x2
      exact ⟨k, k1, fun k' hk' => mono _ (k2 k' hk')⟩
    have l1 : (t.place.toList.take (SetTable.below t.place j)).length = SetTable.below t.place j := by simp; omega
    have l2 : (hs.take (SetTable.below t.place j)).length = SetTable.below t.place j := by simp; omega
    rcases Nat.lt_trichotomy i (SetTable.below t.place j) with hlt | e | hgt
    · rw [List.getElem?_append_left (by rw [l1]; exact hlt), List.getElem?_take, if_pos hlt] at ha
      rw [List.getElem?_append_left (by rw [l2]; exact hlt), List.getElem?_take, if_pos hlt] at hh
      exact old i ha hh
    · subst e
      rw [List.getElem?_append_right (by rw [l1]; exact Nat.le_refl _), l1, Nat.sub_self] at ha
      rw [List.getElem?_append_right (by rw [l2]; exact Nat.le_refl _), l2, Nat.sub_self] at hh
      cases ha; cases hh
      exact ⟨K, hjj, fun k' hk' => mono _ (hb k' hk')⟩
    · obtain ⟨d, rfl⟩ : ∃ d, i = SetTable.below t.place j + (d + 1) := ⟨i - SetTable.below t.place j - 1, by omega⟩
      rw [List.getElem?_append_right (by rw [l1]; omega), l1, Nat.add_sub_cancel_left, List.getElem?_cons_succ, List.getElem?_drop] at ha
      rw [List.getElem?_append_right (by rw [l2]; omega), l2, Nat.add_sub_cancel_left, List.getElem?_cons_succ, List.getElem?_drop] at hh
      exact old _ ha hh
end Mine
end

section
/-! Q3: a table laid anew. -/
set_option maxRecDepth 100000
set_option maxHeartbeats 4000000
namespace Mine
open PySem

def occ (o : Array (Option Nat)) (j : Nat) : Prop := ∃ k, o[j]? = some (some k)
structure Lay (mask : Nat) (o : Array (Option Nat)) (hs : List Int) (n : Nat) : Prop where
  sz : o.size = mask + 1
  reach : ∀ j k : Nat, o[j]? = some (some k) → k < n ∧ ∃ h, hs[k]? = some h ∧ ∃ m, pos mask h m = j ∧ ∀ m', m' < m → occ o (pos mask h m')
  all : ∀ k : Nat, k < n → ∃ j : Nat, o[j]? = some (some k)
  inj : ∀ j j' k : Nat, o[j]? = some (some k) → o[j']? = some (some k) → j = j'

theorem runEnd_le {mask i : Nat} (h : i ≤ mask) : SetTable.runEnd mask i ≤ mask := by unfold SetTable.runEnd; split <;> omega
theorem getD_occ {o : Array (Option Nat)} {j mask : Nat} (hs : o.size = mask + 1) (hj : j ≤ mask) : (o.getD j (some 0)).isNone = false → occ o j := fun h => by
  have hlt : j < o.size := by omega
  have e : o.getD j (some 0) = o[j] := by simp [Array.getD, hlt]
  rw [e] at h
  cases hv : o[j] with
  | none => rw [hv] at h; cases h
  | some k => exact ⟨k, by rw [Array.getElem?_eq_getElem hlt, hv]⟩
theorem getD_free {o : Array (Option Nat)} {j mask : Nat} (hs : o.size = mask + 1) (hj : j ≤ mask) : (o.getD j (some 0)).isNone = true → o[j]? = some none := fun h => by
  have hlt : j < o.size := by omega
  have e : o.getD j (some 0) = o[j] := by simp [Array.getD, hlt]
  rw [e] at h
  cases hv : o[j] with
  | none => rw [Array.getElem?_eq_getElem hlt, hv]
  | some k => rw [hv] at h; cases h

theorem free_spec {mask : Nat} {o : Array (Option Nat)} (h : Int) (hs : o.size = mask + 1) : ∀ (fuel r : Nat), (∃ r', r ≤ r' ∧ r' < r + fuel ∧ o[(run mask h r').1]? = some none) →
    ∃ K, SetTable.layClean.free mask o fuel (run mask h r).1 (run mask h r).2 = some (pos mask h K) ∧ o[pos mask h K]? = some none ∧ pos mask h K ≤ mask ∧ Kr mask h r ≤ K ∧ ∀ m, Kr mask h r ≤ m → m < K → occ o (pos mask h m)
  | 0, r, ⟨r', h1, h2, _⟩ => absurd h2 (by omega)
  | fuel + 1, r, ⟨r', h1, h2, h3⟩ => by
    have hi : (run mask h r).1 ≤ mask := by have := run_lt mask h r; omega
    have hre := runEnd_le hi
    have hri : (run mask h r).1 ≤ SetTable.runEnd mask (run mask h r).1 := by unfold SetTable.runEnd; split <;> omega
    unfold SetTable.layClean.free
    cases hf : (List.range (SetTable.runEnd mask (run mask h r).1 + 1 - (run mask h r).1)).find? fun k => (o.getD ((run mask h r).1 + k) (some 0)).isNone with
    | some k =>
      dsimp only
      have hk := List.find?_some hf
      have hkm := List.mem_range.mp (List.mem_of_find?_eq_some hf)
      have hkl : k ≤ len mask (run mask h r).1 := by unfold len; omega
      have e := pos_run mask h r k hkl
      refine ⟨Kr mask h r + k, by rw [e], ?_, by rw [e]; omega, by omega, fun m hm1 hm2 => ?_⟩
      · rw [e]; exact getD_free hs (by omega) hk
      · obtain ⟨d, rfl⟩ : ∃ d, m = Kr mask h r + d := ⟨m - Kr mask h r, by omega⟩
        rw [pos_run mask h r d (by omega)]
        refine getD_occ hs (by omega) ?_
        rw [List.find?_eq_some_iff_getElem] at hf
        obtain ⟨_, i, hi', e1, e2⟩ := hf
        simp at e1
        have := e2 d (by omega)
        simpa using this
    | none =>
      dsimp only
      have hall := List.find?_eq_none.mp hf
      have hne : r' ≠ r := fun e => by
        subst e
        have := hall 0 (List.mem_range.mpr (by omega))
        rw [Nat.add_zero] at this
        have h4 := getD_occ hs hi ((Bool.not_eq_true _).mp this)
        obtain ⟨k, hk⟩ := h4
        rw [hk] at h3; cases h3
      obtain ⟨K, k1, k2, k3, k4, k5⟩ := free_spec h hs fuel (r + 1) ⟨r', by omega, by omega, h3⟩
      have hKr : Kr mask h (r + 1) = Kr mask h r + len mask (run mask h r).1 + 1 := rfl
      refine ⟨K, k1, k2, k3, by omega, fun m hm1 hm2 => ?_⟩
      by_cases hc : Kr mask h (r + 1) ≤ m
      · exact k5 m hc hm2
      · obtain ⟨d, rfl⟩ : ∃ d, m = Kr mask h r + d := ⟨m - Kr mask h r, by omega⟩
        have hd : d ≤ len mask (run mask h r).1 := by
          have : Kr mask h (r + 1) = Kr mask h r + len mask (run mask h r).1 + 1 := rfl
          omega
        rw [pos_run mask h r d hd]
        have hdl : d < SetTable.runEnd mask (run mask h r).1 + 1 - (run mask h r).1 := by unfold len at hd; omega
        exact getD_occ hs (by omega) ((Bool.not_eq_true _).mp (hall d (List.mem_range.mpr hdl)))

theorem Lay.count {mask : Nat} {o : Array (Option Nat)} {hs : List Int} {n : Nat} (L : Lay mask o hs n) (hn : n < mask + 1) : ∃ j, j ≤ mask ∧ o[j]? = some none := by
  refine Classical.byContradiction fun hc => ?_
  have hall : ∀ j, j ≤ mask → occ o j := fun j hj => by
    have hlt : j < o.size := by rw [L.sz]; omega
    cases hv : o[j] with
    | none => exact absurd ⟨j, hj, by rw [Array.getElem?_eq_getElem hlt, hv]⟩ hc
    | some k => exact ⟨k, by rw [Array.getElem?_eq_getElem hlt, hv]⟩
  have hg : ∀ j, j ≤ mask → ∀ k, o[j]? = some (some k) → (o.getD j (some 0)).getD 0 = k := fun j hj k hk => by
    rw [Array.getD_eq_getD_getElem?, hk]; rfl
  -- the owners of the places are all different
  have := nodup_len ((List.range (mask + 1)).map fun j => (o.getD j (some 0)).getD 0) (List.range n) ?_ ?_
  · simp at this; omega
  · refine List.pairwise_map.mpr (List.Pairwise.imp_of_mem ?_ (List.nodup_range (n := mask + 1)))
    intro a b ha hb hab e
    have ha := List.mem_range.mp ha
    have hb := List.mem_range.mp hb
    obtain ⟨k, hk⟩ := hall a (by omega)
    obtain ⟨k', hk'⟩ := hall b (by omega)
    rw [hg a (by omega) k hk, hg b (by omega) k' hk'] at e
    subst e
    exact hab (L.inj a b k hk hk')
  · intro x hx
    obtain ⟨j, hj, rfl⟩ := List.mem_map.mp hx
    have hj := List.mem_range.mp hj
    obtain ⟨k, hk⟩ := hall j (by omega)
    rw [hg j (by omega) k hk]
    exact List.mem_range.mpr (L.reach j k hk).1
end Mine
end

section
/-! Q4: a table laid anew is in order. -/
set_option maxRecDepth 100000
set_option maxHeartbeats 4000000
namespace Mine
open PySem

theorem Lay.step {mask : Nat} (hg : goodMask mask = true) {o : Array (Option Nat)} {hs : List Int} {n : Nat} (L : Lay mask o hs n) (hn : n < mask + 1) {h : Int} (hh : hs[n]? = some h) :
    ∃ j, SetTable.layClean.free mask o (SetTable.turns mask) (SetTable.bits h % (mask + 1)) (SetTable.bits h) = some j ∧ Lay mask (o.setIfInBounds j (some n)) hs (n + 1) := by
  obtain ⟨j0, hj0, hf0⟩ := L.count hn
  obtain ⟨r, hr, er⟩ := cover hg h hj0
  obtain ⟨K, k1, k2, k3, _, k5⟩ := free_spec h L.sz (SetTable.turns mask) 0 ⟨r, Nat.zero_le _, by omega, by rw [er]; exact hf0⟩
  refine ⟨_, k1, ?_⟩
  generalize hj : pos mask h K = j at k2 k3
  have hjs : j < o.size := by rw [L.sz]; omega
  have hself : (o.setIfInBounds j (some n))[j]? = some (some n) := by simp [hjs]
  have hoth : ∀ x, x ≠ j → (o.setIfInBounds j (some n))[x]? = o[x]? := fun x hx => by
    rw [Array.getElem?_setIfInBounds]
    rw [if_neg fun e => hx e.symm]
  have mono : ∀ x, occ o x → occ (o.setIfInBounds j (some n)) x := fun x ⟨k, hk⟩ => by
    have hx : x ≠ j := fun e => by rw [e, k2] at hk; cases hk
    exact ⟨k, by rw [hoth x hx]; exact hk⟩
  refine ⟨by simp [L.sz], fun x k hk => ?_, fun k hk => ?_, fun x x' k h1 h2 => ?_⟩
  · by_cases hx : x = j
    · subst hx
      rw [hself] at hk
      injection hk with hk
      injection hk with hk
      subst hk
      exact ⟨Nat.lt_succ_self _, h, hh, K, hj, fun m' hm' => mono _ (k5 m' (Nat.zero_le _) hm')⟩
    · rw [hoth x hx] at hk
      obtain ⟨a, h', b, m, c, d⟩ := L.reach x k hk
      exact ⟨by omega, h', b, m, c, fun m' hm' => mono _ (d m' hm')⟩
  · by_cases hkn : k = n
    · subst hkn; exact ⟨j, hself⟩
    · obtain ⟨x, hx⟩ := L.all k (by omega)
      have hxj : x ≠ j := fun e => by rw [e, k2] at hx; cases hx
      exact ⟨x, by rw [hoth x hxj]; exact hx⟩
  · by_cases hx : x = j
    · by_cases hx' : x' = j
      · rw [hx, hx']
      · subst hx
        rw [hself] at h1
        injection h1 with h1
        injection h1 with h1
        subst h1
        rw [hoth x' hx'] at h2
        exact absurd (L.reach x' _ h2).1 (Nat.lt_irrefl _)
    · by_cases hx' : x' = j
      · subst hx'
        rw [hself] at h2
        injection h2 with h2
        injection h2 with h2
        subst h2
        rw [hoth x hx] at h1
        exact absurd (L.reach x _ h1).1 (Nat.lt_irrefl _)
      · rw [hoth x hx] at h1
        rw [hoth x' hx'] at h2
        exact L.inj x x' k h1 h2

def layStep (mask : Nat) (acc : Option (Array (Option Nat) × Nat)) (h : Int) : Option (Array (Option Nat) × Nat) := do
  let (owner, k) ← acc
  let j ← SetTable.layClean.free mask owner (SetTable.turns mask) (SetTable.bits h % (mask + 1)) (SetTable.bits h)
  pure (owner.setIfInBounds j (some k), k + 1)

theorem lay_fold {mask : Nat} (hg : goodMask mask = true) (all : List Int) (hz : all.length < mask + 1) : ∀ (hs2 hs1 : List Int) (o : Array (Option Nat)), all = hs1 ++ hs2 → Lay mask o all hs1.length →
    ∃ o', hs2.foldl (layStep mask) (some (o, hs1.length)) = some (o', all.length) ∧ Lay mask o' all all.length
  | [], hs1, o, e, L => by
    rw [List.append_nil] at e
    exact ⟨o, by rw [e]; rfl, by rw [e] at L ⊢; exact L⟩
  | h :: hs2, hs1, o, e, L => by
    have hh : all[hs1.length]? = some h := by rw [e, List.getElem?_append_right (Nat.le_refl _), Nat.sub_self]; rfl
    have hl : hs1.length < mask + 1 := by rw [e] at hz; simp at hz; omega
    obtain ⟨j, hj, L'⟩ := L.step hg hl hh
    have hl2 : (hs1 ++ [h]).length = hs1.length + 1 := by simp
    obtain ⟨o', h1, h2⟩ := lay_fold hg all hz hs2 (hs1 ++ [h]) (o.setIfInBounds j (some hs1.length)) (by rw [e]; simp) (by rw [hl2]; exact L')
    refine ⟨o', ?_, h2⟩
    rw [List.foldl_cons]
    have hst : layStep mask (some (o, hs1.length)) h = some (o.setIfInBounds j (some hs1.length), hs1.length + 1) := by
      unfold layStep
      show (do let j ← SetTable.layClean.free mask o (SetTable.turns mask) (SetTable.bits h % (mask + 1)) (SetTable.bits h); pure (o.setIfInBounds j (some hs1.length), hs1.length + 1) : Option _) = _
      rw [hj]; rfl
    rw [hst, ← hl2]
    exact h1

theorem laid_ok {mask : Nat} (hg : goodMask mask = true) (hs : Array Int) (hz : hs.size < mask + 1) (f mv : Nat) (led pl : Bool) :
    ∃ t' order, SetTable.laid mask f mv led pl hs = some (t', order) ∧ Ok t' (order.toList.map fun k => hs.toList.getD k 0) ∧ order.toList.Perm (List.range hs.size) ∧ t'.mask = mask ∧ t'.led = led := by
  have L0 : Lay mask (Array.replicate (mask + 1) none) hs.toList ([] : List Int).length := by
    refine ⟨by simp, fun j k hk => ?_, fun k hk => absurd hk (Nat.not_lt_zero _), fun j j' k hk _ => ?_⟩
    · rw [Array.getElem?_replicate] at hk
      split at hk <;> cases hk
    · rw [Array.getElem?_replicate] at hk
      split at hk <;> cases hk
  obtain ⟨o, ho, L⟩ := lay_fold hg hs.toList (by simpa using hz) hs.toList [] _ rfl L0
  have hlc : SetTable.layClean mask hs = some o := by
    have e : SetTable.layClean mask hs = (hs.foldl (layStep mask) (some (Array.replicate (mask + 1) none, 0))).map (·.1) := rfl
    rw [e, ← Array.foldl_toList]
    have ho' : hs.toList.foldl (layStep mask) (some (Array.replicate (mask + 1) none, 0)) = some (o, hs.toList.length) := ho
    rw [ho']; rfl
  rw [Array.length_toList] at L
  have el : SetTable.laid mask f mv led pl hs = some ({ mask, place := (((List.range (mask + 1)).filterMap fun j => (o.getD j none).map (j, ·)).map (·.1)).toArray, dummies := #[], finger := f, led, moves := mv, plain := pl }, (((List.range (mask + 1)).filterMap fun j => (o.getD j none).map (j, ·)).map (·.2)).toArray) := by
    unfold SetTable.laid
    rw [hlc]; rfl
  refine ⟨_, _, el, ?_⟩
  have hmem : ∀ j k, (j, k) ∈ ((List.range (mask + 1)).filterMap fun j => (o.getD j none).map (j, ·)) ↔ o[j]? = some (some k) := fun j k => by
    rw [List.mem_filterMap]
    constructor
    · rintro ⟨x, hx, e⟩
      rw [Array.getD_eq_getD_getElem?] at e
      cases hv : o[x]? with
      | none => rw [hv] at e; cases e
      | some v =>
        rw [hv] at e
        cases v with
        | none => cases e
        | some k' =>
          cases e
          exact hv
    · intro hk
      have hlt : j < o.size := (Array.getElem?_eq_some_iff.mp hk).1
      refine ⟨j, List.mem_range.mpr (by rw [← L.sz]; exact hlt), ?_⟩
      rw [Array.getD_eq_getD_getElem?, hk]; rfl
  generalize hlive : ((List.range (mask + 1)).filterMap fun j => (o.getD j none).map (j, ·)) = live at hmem
  have hup : live.Pairwise fun a b => a.1 < b.1 := by
    rw [← hlive]
    rw [List.pairwise_filterMap]
    refine (List.pairwise_lt_range (n := mask + 1)).imp fun {a b} hab x hx y hy => ?_
    cases ha : o.getD a none with
    | none => rw [ha] at hx; cases hx
    | some k =>
      cases hb : o.getD b none with
      | none => rw [hb] at hy; cases hy
      | some k' =>
        rw [ha] at hx; rw [hb] at hy
        cases hx; cases hy
        exact hab
  have hle : ∀ j k, (j, k) ∈ live → j ≤ mask := fun j k hjk => by
    have := (Array.getElem?_eq_some_iff.mp ((hmem j k).mp hjk)).1
    rw [L.sz] at this; omega
  have hperm : (live.map (·.2)).Perm (List.range hs.size) := by
    refine (List.perm_ext_iff_of_nodup ?_ List.nodup_range).mpr fun k => ?_
    · refine List.pairwise_map.mpr (List.Pairwise.imp_of_mem ?_ hup)
      rintro ⟨j, k⟩ ⟨j', k'⟩ ha hb hab e
      dsimp only at hab e
      subst e
      have := L.inj j j' k ((hmem j k).mp ha) ((hmem j' k).mp hb)
      omega
    · rw [List.mem_range, List.mem_map]
      constructor
      · rintro ⟨⟨j, k'⟩, hjk, rfl⟩
        exact (L.reach j k' ((hmem j k').mp hjk)).1
      · intro hk
        obtain ⟨j, hj⟩ := L.all k hk
        exact ⟨(j, k), (hmem j k).mpr hj, rfl⟩
  have hlen : live.length = hs.size := by
    have := hperm.length_eq
    simpa using this
  refine ⟨⟨?_, ?_, ?_, rfl, hg, ?_, ?_⟩, ?_, rfl, rfl⟩
  · simp
  · show Up (live.map (·.1))
    exact List.pairwise_map.mpr hup
  · intro j hj
    obtain ⟨⟨j', k⟩, hjk, rfl⟩ := List.mem_map.mp (show j ∈ live.map (·.1) from hj)
    exact hle j' k hjk
  · simp [hlen]; omega
  · intro i j h hj hh
    have hj : (live.map (·.1))[i]? = some j := hj
    have hh : ((live.map (·.2)).map fun k => hs.toList.getD k 0)[i]? = some h := hh
    rw [List.getElem?_map] at hj
    rw [List.map_map, List.getElem?_map] at hh
    cases hl : live[i]? with
    | none => rw [hl] at hj; cases hj
    | some p =>
      rw [hl] at hj hh
      cases hj; cases hh
      obtain ⟨j, k⟩ := p
      obtain ⟨_, h', h1, m, h2, h3⟩ := L.reach j k ((hmem j k).mp (List.mem_of_getElem? hl))
      have e : hs.toList.getD k 0 = h' := by rw [List.getD_eq_getElem?_getD, h1]; rfl
      refine ⟨m, ?_, fun m' hm' => ?_⟩
      · show pos mask (hs.toList.getD k 0) m = j
        rw [e]; exact h2
      · show pos mask (hs.toList.getD k 0) m' ∈ live.map (·.1)
        rw [e]
        obtain ⟨k', hk'⟩ := h3 m' hm'
        exact List.mem_map.mpr ⟨(_, k'), (hmem _ k').mpr hk', rfl⟩
  · exact hperm
end Mine
end

section
/-! Q5: a tuple of strs searched in a set's table. -/
set_option maxRecDepth 100000
set_option maxHeartbeats 4000000
namespace Mine
open PySem PySem.Calls PyProof.Rows PySem.W PySem.Builtin

section
variable {prog : Program} {w : World} {A : Around} {E : Value → Shared → Prop} {c : Cx} {F : Fz} {mu : Mu} {s : Shared}

/-- a tuple of names as a key -/
abbrev TK (prog : Program) (w : World) (h : Heap) (k : List T) (a : Addr) : Prop := IsTupleKey (strKind prog w) h (k.map us) a
def hashT (prog : Program) (w : World) (k : List T) : Int := tupleKeyHash (strKind prog w) (k.map us)
theorem items_of : ∀ {k : List T} {vs : List Value}, TxL false k vs → PySem.ItemsAre (strKind prog w) (k.map us) vs
  | _, _, .nil => .nil
  | _, _, .cons (a := p) ⟨t, e⟩ r => .cons (by rw [e]; show Value.isStrOf (us p) (.str (us p) t) = true; simp [Value.isStrOf]) (items_of r)
theorem mapus_inj {k k' : List T} (h : k.map us = k'.map us) : k = k' := by
  induction k generalizing k' with
  | nil => cases k' with
    | nil => rfl
    | cons _ _ => cases h
  | cons a r ih => cases k' with
    | nil => cases h
    | cons b q =>
      simp only [List.map_cons, List.cons.injEq] at h
      rw [us_inj.mp h.1, ih h.2]
theorem TK.of {F : Fz} {a : Addr} {k : List T} {vs : List Value} {h : Heap} (x : STup F (.ref a) vs) (ht : TxL false k vs) (i : F.In h) : TK prog w h k a := by
  obtain ⟨a', o, e, ho, hc, n, hd⟩ := x
  cases e
  exact ⟨o, vs.toArray, n, i _ _ ho, hc, hd, items_of ht⟩
theorem TK.vals {a : Addr} {k : List T} {h : Heap} (x : TK prog w h k a) : ∃ o items n, h.get? a = some o ∧ o.cls = .type "tuple" ∧ o.data = .seq items n ∧ ∀ v ∈ items.toList, ∃ q t, v = .str q t := by
  obtain ⟨o, items, n, ho, hc, hd, hi⟩ := x
  refine ⟨o, items, n, ho, hc, hd, ?_⟩
  generalize k.map us = ks at hi
  generalize items.toList = l at hi
  induction hi with
  | nil => intro v hv; cases hv
  | cons h1 _ ih =>
    intro v hv
    rcases List.mem_cons.mp hv with rfl | hv
    · obtain ⟨t, e⟩ := Value.isStrOf_shape h1
      exact ⟨_, t, e⟩
    · exact ih v hv

theorem forNo {α β : Type} {M : Model} {Q : β → Shared → Prop} {l : List α} {b : β} {f : α → β → Sem (ForInStep β)} (h : ∀ x ∈ l, ∀ (Q : ForInStep β → Shared → Prop), Q (.yield b) s → wpAny M A (f x b) Q E s) (hq : Q b s) : wpAny M A (forIn l b f) Q E s := by
  induction l with
  | nil => rw [List.forIn_nil]; exact wpAny_pure hq
  | cons x r ih =>
    rw [List.forIn_cons]
    exact wpAny_bind (h x (List.mem_cons_self) _ (ih fun y hy => h y (.tail _ hy)))

theorem notClass {a : Addr} {k : List T} {Q : Bool → Shared → Prop} (x : TK prog w s.heap k a) (h : Q false s) : wpAny (model prog w) A (ofAClassStatement 8 (.ref a)) Q E s := by
  obtain ⟨o, items, n, ho, hc, hd, hv⟩ := x.vals
  unfold ofAClassStatement
  refine wpAny_bind (wpAny_typeOf (T := "tuple") ⟨o, ho, hc⟩ ?_)
  dsimp only
  rw [if_pos (by decide)]
  refine wpAny_bind (wpAny_pure ?_)
  rw [if_neg (by decide)]
  refine wpAny_bind (wpAny_seqItems ho hd ?_)
  dsimp only
  refine wpAny_bind ?_
  refine wpAny_arrayLoop ?_
  refine forNo (fun v hv' Q' hq => ?_) (wpAny_pure h)
  obtain ⟨q, t, rfl⟩ := hv v hv'
  refine wpAny_bind ?_
  unfold ofAClassStatement
  refine wpAny_pure ?_
  rw [if_neg Bool.false_ne_true]
  exact wpAny_pure hq

theorem seenNo {a : Addr} {k : List T} {stored : List Value} {Q : Bool → Shared → Prop} (x : TK prog w s.heap k a) (hst : ∀ y ∈ stored, ∃ k' b, y = .ref b ∧ TK prog w s.heap k' b) (h : Q false s) :
    wpAny (model prog w) A (searchCouldBeSeen (.ref a) stored) Q E s := by
  unfold searchCouldBeSeen
  refine wpAny_bind ?_
  refine forNo (fun y hy Q' hq => ?_) (wpAny_pure h)
  obtain ⟨k', b, rfl, xb⟩ := hst y hy
  dsimp only
  by_cases hab : (a == b) = true
  · rw [if_pos (by rw [hab]; rfl)]
    exact wpAny_pure hq
  · rw [if_neg (by simp only [hab]; simp [carriedByValue])]
    refine wpAny_bind ((tupleKind (strKind prog w)).quiet x ?_)
    rw [if_neg (by decide)]
    refine wpAny_bind ((tupleKind (strKind prog w)).quiet xb ?_)
    rw [if_neg (by decide)]
    refine wpAny_bind (notClass x ?_)
    rw [if_neg (by decide)]
    refine wpAny_bind (notClass xb ?_)
    rw [if_neg (by decide)]
    exact wpAny_pure hq

/-- the entries of a set of tuples -/
def Ent (prog : Program) (w : World) (h : Heap) : List (List T) → List (Int × Value) → Prop
  | [], [] => True
  | k :: ks, e :: es => (e.1 = hashT prog w k ∧ ∃ a, e.2 = .ref a ∧ TK prog w h k a) ∧ Ent prog w h ks es
  | _, _ => False
theorem Ent.get {h : Heap} : ∀ {ks : List (List T)} {es : List (Int × Value)}, Ent prog w h ks es → ∀ (i : Nat) (k : List T), ks[i]? = some k → ∃ a, es[i]? = some (hashT prog w k, .ref a) ∧ TK prog w h k a
  | [], [], _, i, k, hk => by cases hk
  | k' :: ks, e :: es, ⟨⟨h1, a, h2, h3⟩, _⟩, 0, k, hk => by
    cases hk
    exact ⟨a, by obtain ⟨e1, e2⟩ := e; dsimp only at h1 h2; rw [h1, h2]; rfl, h3⟩
  | k' :: ks, e :: es, ⟨_, r⟩, i + 1, k, hk => Ent.get r i k hk
theorem Ent.length {h : Heap} : ∀ {ks : List (List T)} {es : List (Int × Value)}, Ent prog w h ks es → ks.length = es.length
  | [], [], _ => rfl
  | _ :: _, _ :: _, ⟨_, r⟩ => by simp [Ent.length r]
theorem Ent.mem {h : Heap} : ∀ {ks : List (List T)} {es : List (Int × Value)}, Ent prog w h ks es → ∀ e ∈ es, ∃ k a, k ∈ ks ∧ e.1 = hashT prog w k ∧ e.2 = .ref a ∧ TK prog w h k a
  | [], [], _, e, he => by cases he
  | k :: ks, e' :: es, ⟨⟨h1, a, h2, h3⟩, r⟩, e, he => by
    rcases List.mem_cons.mp he with rfl | he
    · exact ⟨k, a, List.mem_cons_self, h1, h2, h3⟩
    · obtain ⟨k', a', b, c⟩ := Ent.mem r e he
      exact ⟨k', a', .tail _ b, c⟩
end

section
variable {prog : Program} {w : World} {A : Around} {E : Value → Shared → Prop} {s : Shared}

theorem ledW {M : Model} {b : Bool} {S : Sem Bool} {X R : Sem SetFound} {Q : SetFound → Shared → Prop} (h1 : ∀ Q' : Bool → Shared → Prop, Q' false s → wpAny M A S Q' E s) (h2 : wpAny M A R Q E s) :
    wpAny M A (if b = true then (do let r ← S; if r = true then X else R) else R) Q E s := by
  by_cases hb : b = true
  · rw [if_pos hb]
    refine wpAny_bind (h1 _ ?_)
    rw [if_neg Bool.false_ne_true]
    exact h2
  · rw [if_neg hb]
    exact h2
/-- the search, from the k-th probe on -/
theorem searchW {D a : Addr} {o : Obj} {es : Array (Int × Value)} {ep : Nat} {t : SetTable} {ks : List (List T)} {key : List T} {Q : SetFound → Shared → Prop} (hu : A.units < cLine)
    (ho : s.heap.get? D = some o) (hd : o.data = .set es ep t) (O : Ok t (es.toList.map (·.1))) (H : Ent prog w s.heap ks es.toList) (x : TK prog w s.heap key a)
    {K : Nat} (hK1 : K < 10 * SetTable.turns t.mask) (hK2 : pos t.mask (hashT prog w key) K ∉ t.place.toList) (hK3 : ∀ k, k < K → pos t.mask (hashT prog w key) k ∈ t.place.toList) (hev : t.mask % 2 = 1)
    (hfit : t.fits es.size = true)
    (hQ1 : key ∈ ks → Q (.there none) s) (hQ2 : key ∉ ks → Q (.free (pos t.mask (hashT prog w key) K) false) s) :
    ∀ (n k fuel : Nat) (st : Option SetTable.Probe), K - k = n → k ≤ K → K - k < fuel → st.getD (t.probeStart (hashT prog w key)) = PP t.mask (hashT prog w key) k →
      (∀ i, ks[i]? = some key → ∀ k', k' < k → t.slot (pos t.mask (hashT prog w key) k') ≠ .live i) →
      wpAny (model prog w) A (setSearchFrom D (.ref a) (hashT prog w key) true fuel st) Q E s := by
  intro n
  induction n using Nat.strongRecOn with
  | ind n ih =>
    intro k fuel st hn hkK hf hst hpass
    cases fuel with
    | zero => exact absurd hf (Nat.not_lt_zero _)
    | succ fuel =>
      generalize hh : hashT prog w key = h at *
      have liv : ∀ k', k' < K → ∃ i, t.place.toList[i]? = some (pos t.mask h k') ∧ t.slot (pos t.mask h k') = .live i := fun k' hk' => by
        obtain ⟨i, hi⟩ := List.getElem?_of_mem (hK3 k' hk')
        exact ⟨i, hi, slot_live O.up hi⟩
      have hemp : t.slot (pos t.mask h K) = .empty := slot_empty O.dum hK2
      -- the next place that stops the probing
      have hex : ∀ d k, K - k = d → k ≤ K → ∃ k2, k ≤ k2 ∧ k2 ≤ K ∧ (k2 = K ∨ k2 < K ∧ ∃ i, t.slot (pos t.mask h k2) = .live i ∧ ((es[i]?.map (·.1)).getD 0) = h) ∧ ∀ k', k ≤ k' → k' < k2 → ∃ i, t.slot (pos t.mask h k') = .live i ∧ ((es[i]?.map (·.1)).getD 0) ≠ h := by
        intro d
        induction d with
        | zero => intro k h1 h2; exact ⟨K, h2, Nat.le_refl _, .inl rfl, fun k' a b => absurd b (by omega)⟩
        | succ d ihd =>
          intro k h1 h2
          obtain ⟨i, _, hi⟩ := liv k (by omega)
          by_cases hc : ((es[i]?.map (·.1)).getD 0) = h
          · exact ⟨k, Nat.le_refl _, by omega, .inr ⟨by omega, i, hi, hc⟩, fun k' a b => absurd b (by omega)⟩
          · obtain ⟨k2, a, b, c, e⟩ := ihd (k + 1) (by omega) (by omega)
            refine ⟨k2, by omega, b, c, fun k' x y => ?_⟩
            by_cases hk : k' = k
            · subst hk; exact ⟨i, hi, hc⟩
            · exact e k' (by omega) y
      obtain ⟨k2, hk2, hk2K, hstop, hbef⟩ := hex _ k rfl hkK
      have hfuel : k2 - k < 10 * SetTable.turns t.mask := by omega
      obtain ⟨g1, g2⟩ := go_run t (fun i => (es[i]?.map (·.1)).getD 0) h _ k k2 hk2 hfuel hbef
      unfold setSearchFrom
      refine wpAny_bind (wpAny_setState_of ho hd hfit ?_)
      dsimp only
      have hgw : t.gaveWay = false := by
        unfold SetTable.gaveWay
        rw [hev]; rfl
      rw [hgw, if_neg Bool.false_ne_true]
      rcases hstop with rfl | ⟨hlt, i, hi, hih⟩
      · have hp : t.probe (fun i => (es[i]?.map (·.1)).getD 0) h (st.getD (t.probeStart h)) = some (.empty (pos t.mask h k2) none) := by
          rw [hst]; exact g1 hemp
        have hno : key ∉ ks := fun hm => by
          obtain ⟨i, hi⟩ := List.getElem?_of_mem hm
          obtain ⟨b, hb, xb⟩ := H.get i key hi
          rw [hh] at hb
          have hpl : i < t.place.toList.length := by
            rw [O.len, List.length_map]
            exact (List.getElem?_eq_some_iff.mp hb).1
          obtain ⟨m, hm1, hm2⟩ := O.reach i _ h (List.getElem?_eq_getElem hpl) (by rw [List.getElem?_map, hb]; rfl)
          have hslot : t.slot (pos t.mask h m) = .live i := by rw [hm1]; exact slot_live O.up (List.getElem?_eq_getElem hpl)
          have hmK : m < k2 := by
            rcases Nat.lt_trichotomy m k2 with h1 | h1 | h1
            · exact h1
            · subst h1; rw [hslot] at hemp; cases hemp
            · exact absurd (hm2 _ h1) hK2
          by_cases hmk : m < k
          · exact hpass i hi m hmk hslot
          · obtain ⟨i', hi', hn'⟩ := hbef m (by omega) hmK
            rw [hslot] at hi'
            cases hi'
            exact hn' (by rw [← Array.getElem?_toList, hb]; rfl)
        generalize hsf : t.probe _ h (st.getD (t.probeStart h)) = pr
        have e : pr = some (.empty (pos t.mask h k2) none) := hsf.symm.trans hp
        subst e
        exact wpAny_pure (hQ2 hno)
      · have hp : t.probe (fun i => (es[i]?.map (·.1)).getD 0) h (st.getD (t.probeStart h)) = some (.candidate (pos t.mask h k2) i (PP t.mask h (k2 + 1))) := by
          rw [hst]; exact g2 i hi hih
        generalize hsf : t.probe _ h (st.getD (t.probeStart h)) = pr
        have e : pr = some (.candidate (pos t.mask h k2) i (PP t.mask h (k2 + 1))) := hsf.symm.trans hp
        subst e
        dsimp only
        -- the entry there
        obtain ⟨i', hi', hl'⟩ := liv k2 hlt
        rw [hl'] at hi
        cases hi
        have hil : i < ks.length := by
          have := (List.getElem?_eq_some_iff.mp hi').1
          rw [O.len, List.length_map] at this
          rw [H.length]; exact this
        obtain ⟨b, hb, xb⟩ := H.get i ks[i] (List.getElem?_eq_getElem hil)
        have hea : es[i]? = some (hashT prog w ks[i], .ref b) := by rw [← Array.getElem?_toList]; exact hb
        have hst : ∀ y ∈ List.map (fun x : Int × Value => x.snd) (Array.filter (fun x => x.fst == h) es).toList, ∃ k' b, y = .ref b ∧ TK prog w s.heap k' b := fun y hy => by
          obtain ⟨e, he, rfl⟩ := List.mem_map.mp hy
          have he' : e ∈ es.toList := by
            rw [Array.toList_filter] at he
            exact (List.mem_filter.mp he).1
          obtain ⟨k', b', _, _, e2, xb'⟩ := H.mem e he'
          exact ⟨k', b', e2, xb'⟩
        refine ledW (fun Q' hq => seenNo x hst hq) ?_
        rw [hea]
        dsimp only
        refine wpAny_bind (wpAny_holding ((tupleKind (strKind prog w)).eqBool hu xb x ?_))
        refine wpAny_bind (wpAny_setState_of ho hd hfit ?_)
        dsimp only
        by_cases hke : ks[i] = key
        · have e : decide (ks[i].map us = key.map us) = true := by rw [hke]; simp
          rw [if_pos (by rw [Bool.true_and]; exact e)]
          exact wpAny_pure (hQ1 (hke ▸ List.getElem_mem hil))
        · have e : decide (ks[i].map us = key.map us) = false := decide_eq_false fun q => hke (mapus_inj q)
          rw [if_neg (by rw [Bool.true_and]; intro q; rw [e] at q; cases q)]
          have hsm : t.sameMemory t.moves t.mask = some true := by unfold SetTable.sameMemory; rw [if_pos (by simp)]
          rw [hsm]
          dsimp only
          rw [if_pos rfl, hl']
          dsimp only
          rw [hea]
          dsimp only
          refine wpAny_bind (wpAny_isSame_ref_self ?_)
          rw [if_pos rfl]
          refine wpAny_bind (wpAny_pure ?_)
          dsimp only
          rw [if_neg (by intro q; rw [e] at q; cases q)]
          refine ih (K - (k2 + 1)) (by omega) (k2 + 1) fuel _ rfl (by omega) (by omega) rfl fun i2 hi2 k' hk' hs' => ?_
          by_cases hkk : k' < k
          · exact hpass i2 hi2 k' hkk hs'
          · by_cases hk2' : k' = k2
            · subst hk2'
              rw [hl'] at hs'
              cases hs'
              rw [List.getElem?_eq_getElem hil] at hi2
              exact hke (Option.some.inj hi2)
            · obtain ⟨i3, h3, h4⟩ := hbef k' (by omega) (by omega)
              rw [hs'] at h3
              cases h3
              obtain ⟨b2, hb2, _⟩ := H.get i2 key hi2
              rw [hh] at hb2
              exact h4 (by rw [← Array.getElem?_toList, hb2]; rfl)
end
end Mine
end

section
/-! Q6: a tuple of texts put into a set. -/
set_option maxRecDepth 100000
set_option maxHeartbeats 4000000
namespace Mine
open PySem PySem.Calls PyProof.Rows PySem.W PySem.Builtin

section
variable {prog : Program} {w : World} {A : Around} {E : Value → Shared → Prop} {c : Cx} {F : Fz} {mu : Mu} {s : Shared}

def EntF (prog : Program) (w : World) (F : Fz) : List (List T) → List (Int × Value) → Prop
  | [], [] => True
  | k :: ks, e :: es => (e.1 = hashT prog w k ∧ ∃ a vs, e.2 = .ref a ∧ STup F (.ref a) vs ∧ TxL false k vs) ∧ EntF prog w F ks es
  | _, _ => False
theorem EntF.ent {h : Heap} (i : F.In h) : ∀ {ks : List (List T)} {es : List (Int × Value)}, EntF prog w F ks es → Ent prog w h ks es
  | [], [], _ => trivial
  | _ :: _, _ :: _, ⟨⟨h1, a, vs, h2, h3, h4⟩, r⟩ => ⟨⟨h1, a, h2, TK.of h3 h4 i⟩, EntF.ent i r⟩
  | [], _ :: _, h => h.elim
  | _ :: _, [], h => h.elim
theorem stup_le {F' : Fz} {v : Value} {vs : List Value} (l : F.Le F') : STup F v vs → STup F' v vs
  | ⟨a, o, e, ho, r⟩ => ⟨a, o, e, l _ _ ho, r⟩
theorem EntF.mono {F' : Fz} (l : F.Le F') : ∀ {ks : List (List T)} {es : List (Int × Value)}, EntF prog w F ks es → EntF prog w F' ks es
  | [], [], _ => trivial
  | _ :: _, _ :: _, ⟨⟨h1, a, vs, h2, h3, h4⟩, r⟩ => ⟨⟨h1, a, vs, h2, stup_le l h3, h4⟩, EntF.mono l r⟩
  | [], _ :: _, h => h.elim
  | _ :: _, [], h => h.elim
theorem EntF.app : ∀ {ks ks' : List (List T)} {es es' : List (Int × Value)}, EntF prog w F ks es → EntF prog w F ks' es' → EntF prog w F (ks ++ ks') (es ++ es')
  | [], _, [], _, _, h => h
  | _ :: _, _, _ :: _, _, ⟨h1, r⟩, h => ⟨h1, EntF.app r h⟩
  | [], _, _ :: _, _, h, _ => h.elim
  | _ :: _, _, [], _, h, _ => h.elim
theorem EntF.take : ∀ (n : Nat) {ks : List (List T)} {es : List (Int × Value)}, EntF prog w F ks es → EntF prog w F (ks.take n) (es.take n)
  | 0, _, _, _ => by simp [EntF]
  | n + 1, [], [], _ => trivial
  | n + 1, _ :: _, _ :: _, ⟨h1, r⟩ => ⟨h1, EntF.take n r⟩
  | _ + 1, [], _ :: _, h => h.elim
  | _ + 1, _ :: _, [], h => h.elim
theorem EntF.drop : ∀ (n : Nat) {ks : List (List T)} {es : List (Int × Value)}, EntF prog w F ks es → EntF prog w F (ks.drop n) (es.drop n)
  | 0, _, _, h => h
  | n + 1, [], [], _ => trivial
  | n + 1, _ :: _, _ :: _, ⟨_, r⟩ => EntF.drop n r
  | _ + 1, [], _ :: _, h => h.elim
  | _ + 1, _ :: _, [], h => h.elim
theorem EntF.len : ∀ {ks : List (List T)} {es : List (Int × Value)}, EntF prog w F ks es → ks.length = es.length
  | [], [], _ => rfl
  | _ :: _, _ :: _, ⟨_, r⟩ => by simp [EntF.len r]
  | [], _ :: _, h => h.elim
  | _ :: _, [], h => h.elim
theorem EntF.at : ∀ {ks : List (List T)} {es : List (Int × Value)}, EntF prog w F ks es → ∀ (i : Nat), i < ks.length → ∃ e, es[i]? = some e ∧ EntF prog w F [ks.getD i []] [e]
  | _ :: _, e :: _, ⟨h1, _⟩, 0, _ => ⟨e, rfl, h1, trivial⟩
  | _ :: ks, _ :: es, ⟨_, r⟩, i + 1, hi => by
    obtain ⟨e, he, hx⟩ := EntF.at r i (by simpa using hi)
    exact ⟨e, by simpa using he, by simpa using hx⟩
  | [], [], _, _, hi => absurd hi (Nat.not_lt_zero _)
  | [], _ :: _, h, _, _ => h.elim
  | _ :: _, [], h, _, _ => h.elim
theorem EntF.perm {ks : List (List T)} {es : List (Int × Value)} (H : EntF prog w F ks es) : ∀ (o : List Nat), (∀ i ∈ o, i < ks.length) → EntF prog w F (o.map fun i => ks.getD i []) (o.filterMap fun i => es[i]?) ∧ (o.filterMap fun i => es[i]?).length = o.length ∧ (o.filterMap fun i => es[i]?).map (·.1) = o.map fun i => (es.map (·.1)).getD i 0
  | [], _ => ⟨trivial, rfl, rfl⟩
  | i :: o, hi => by
    obtain ⟨e, he, hx⟩ := H.at i (hi i List.mem_cons_self)
    obtain ⟨r1, r2, r3⟩ := EntF.perm H o fun j hj => hi j (.tail _ hj)
    rw [List.filterMap_cons, he]
    refine ⟨?_, by simp [r2], ?_⟩
    · exact ⟨hx.1, r1⟩
    · simp only [List.map_cons, r3]
      congr 1
      simp [List.getD_eq_getElem?_getD, he]

/-- a set of tuples of texts -/
def setT (prog : Program) (w : World) (F : Fz) (S : List (List T)) (o : Obj) : Prop :=
  ∃ es ep t ks, o = { cls := .type "set", data := .set es ep t } ∧ Ok t (es.toList.map (·.1)) ∧ EntF prog w F ks es.toList ∧ ks.Nodup ∧ (∀ k, k ∈ ks ↔ k ∈ S) ∧ (t.mask = 7 ∨ t.mask = 31 ∨ t.mask = 127) ∧ es.size * 5 < t.mask * 3
theorem setT.mono {F' : Fz} (l : F.Le F') {S : List (List T)} {o : Obj} : setT prog w F S o → setT prog w F' S o
  | ⟨es, ep, t, ks, h1, h2, h3, h4⟩ => ⟨es, ep, t, ks, h1, h2, h3.mono l, h4⟩
theorem Ok.fits {t : SetTable} {es : Array (Int × Value)} (O : Ok t (es.toList.map (·.1))) : t.fits es.size = true := by
  have h1 := O.len
  have h2 := O.room
  rw [List.length_map, Array.length_toList] at h1 h2
  rw [Array.length_toList] at h1
  unfold SetTable.fits SetTable.fill
  rw [O.dum]
  simp
  omega

theorem hashByAny {a : Addr} {vs : List Value} {key : List T} {Q : Bool → Shared → Prop} (S : St0 c F mu s) (x : STup F (.ref a) vs) (ht : TxL false key vs) (h : ∀ b, Q b s) : wpAny (model prog w) A (hashByValue 8 (.ref a)) Q E s := by
  obtain ⟨o, items, n, ho, hc, hd, hv⟩ := (TK.of (prog := prog) (w := w) x ht S.inn).vals
  have hT : s.TypeIs (.ref a) "tuple" := ⟨o, ho, hc⟩
  unfold hashByValue
  refine wpAny_bind (wpAny_specialOf hT PySem.F.slot_tuple_hash.lookup ?_)
  dsimp only
  refine wpAny_bind (wpAny_seqItems ho hd ?_)
  refine wpAny_bind ?_
  refine wpAny_arrayLoop ?_
  show wpAny _ A (forIn items.toList _ _) _ _ _
  cases hl : items.toList with
  | nil => rw [List.forIn_nil]; exact wpAny_pure (wpAny_pure (h _))
  | cons v r =>
    obtain ⟨q, t, rfl⟩ := hv v (by rw [hl]; exact List.mem_cons_self)
    rw [List.forIn_cons]
    refine wpAny_bind ?_
    refine wpAny_bind ?_
    unfold hashByValue
    refine wpAny_pure ?_
    rw [if_pos (show (!false) = true from rfl)]
    exact wpAny_pure (wpAny_pure (wpAny_pure (h _)))

theorem rangeGet (ks : List (List T)) : (List.range ks.length).map (fun i => ks.getD i []) = ks := by
  apply List.ext_getElem
  · simp
  · intro i h1 h2
    simp [List.getD_eq_getElem?_getD, List.getElem?_eq_getElem h2]
theorem sizeAbove20 : SetTable.sizeAbove (SetTable.grown 5) = 32 := by decide +kernel
theorem sizeAbove76 : SetTable.sizeAbove (SetTable.grown 19) = 128 := by decide +kernel

theorem setRelayT {D : Addr} {o : Obj} {es : Array (Int × Value)} {ep : Nat} {t : SetTable} {ks : List (List T)} {S : List (List T)} {P : Obj → Prop} {n m : Nat} {Q : Unit → Shared → Prop} (S0 : St0 c F ((D, P) :: mu) s)
    (ho : s.heap.get? D = some o) (hk : o = { cls := .type "set", data := .set es ep t }) (O : Ok t (es.toList.map (·.1))) (H : EntF prog w F ks es.toList) (hnd : ks.Nodup) (hm : ∀ k, k ∈ ks ↔ k ∈ S)
    (hsz : SetTable.sizeAbove n = m + 1) (hmm : m = 31 ∨ m = 127) (hroom : es.size * 5 < m * 3)
    (h : ∀ s', St0 c F ((D, setT prog w F S) :: mu) s' → Q () s') : wpAny (model prog w) A (setRelay D n) Q E s := by
  have hd : o.data = .set es ep t := by rw [hk]
  unfold setRelay
  refine wpAny_bind (wpAny_setState_of ho hd O.fits ?_)
  dsimp only
  have hgm : goodMask m = true := by rcases hmm with rfl | rfl <;> decide +kernel
  have hline : ¬ (SetTable.sizeAbove n > sizeLine) := by rw [hsz]; unfold sizeLine; rcases hmm with rfl | rfl <;> decide
  rw [if_neg hline]
  have hz : (es.map (·.1)).size < m + 1 := by rw [Array.size_map]; omega
  obtain ⟨t', order, hl, O', hp, hmask, hled⟩ := laid_ok hgm (es.map (·.1)) hz t.finger (t.movedTo (SetTable.sizeAbove n - 1)) t.led t.plain
  have hrel : t.relaid (es.map (·.1)) n = some (t', order) := by
    unfold SetTable.relaid
    rw [hsz]
    rw [hsz] at hl
    exact hl
  rw [hrel]
  have hin : ∀ i ∈ order.toList, i < ks.length := fun i hi => by
    have := hp.mem_iff.mp hi
    rw [List.mem_range, Array.size_map] at this
    rw [H.len]; simpa using this
  obtain ⟨p1, p2, p3⟩ := H.perm order.toList hin
  have hpk : (order.toList.map fun i => ks.getD i []).Perm ks := by
    have e := hp.map fun i => ks.getD i []
    rw [Array.size_map, ← Array.length_toList, ← H.len, rangeGet] at e
    exact e
  have hol : order.toList.length = es.size := by rw [hp.length_eq, List.length_range, Array.size_map]
  have hes : (order.filterMap (es[·]?)).toList = order.toList.filterMap fun i => es.toList[i]? := by
    rw [Array.toList_filterMap]
    congr 1
    funext i
    exact Array.getElem?_toList.symm
  have hsize : (order.filterMap (es[·]?)).size = es.size := by
    rw [← Array.length_toList, hes, p2, hol]
  refine wpAny_bind (wpAny_of_eq (a := (order.filterMap (es[·]?), t')) ?_ ?_)
  · show (if ((order.filterMap (es[·]?)).size != es.size) = true then (do (unsupported "internal:set-table-lost-an-element" : Sem Unit); pure (order.filterMap (es[·]?), t')) else pure (order.filterMap (es[·]?), t') : Sem (Array (Int × Value) × SetTable)) = _
    rw [hsize, if_neg (by simp)]
  dsimp only
  unfold storeSet
  refine wpAny_bind (wpAny_load ho ?_)
  rw [hd]
  dsimp only
  rw [if_neg (show ¬ ((order.filterMap (es[·]?)).size > sizeLine) by rw [hsize]; unfold sizeLine; rcases hmm with rfl | rfl <;> omega)]
  refine wpAny_update ho ?_
  refine h _ (S0.upd (fun b o hb e => (Heap.get?_update_other _ _ (Ne.symm hb)).trans e) ⟨_, Heap.get?_update_self _ ho (by rw [hk]; rfl), ?_⟩ rfl rfl)
  refine ⟨order.filterMap (es[·]?), ep + 1, t', order.toList.map fun i => ks.getD i [], by rw [hk]; rfl, ?_, ?_, ?_, ?_, ?_, ?_⟩
  · rw [hes, p3]
    have e : (es.map (·.1)).toList = es.toList.map (·.1) := Array.toList_map
    rw [e] at O'
    exact O'
  · rw [hes]; exact p1
  · exact hpk.nodup_iff.mpr hnd
  · intro k; rw [hpk.mem_iff]; exact hm k
  · rw [hmask]; exact .inr hmm
  · rw [hsize, hmask]; exact hroom

theorem PP_in (mask : Nat) (h : Int) : ∀ k, (PP mask h k).j + (PP mask h k).more ≤ mask
  | 0 => by
    have h1 : SetTable.bits h % (mask + 1) < mask + 1 := Nat.mod_lt _ (Nat.succ_pos _)
    have h2 := runEnd_le (mask := mask) (i := SetTable.bits h % (mask + 1)) (by omega)
    show SetTable.bits h % (mask + 1) + (SetTable.runEnd mask (SetTable.bits h % (mask + 1)) - SetTable.bits h % (mask + 1)) ≤ mask
    omega
  | k + 1 => by
    have ih := PP_in mask h k
    show (adv mask (PP mask h k)).j + (adv mask (PP mask h k)).more ≤ mask
    unfold adv
    by_cases hm : (PP mask h k).more > 0
    · rw [if_pos hm]; show (PP mask h k).j + 1 + ((PP mask h k).more - 1) ≤ mask; omega
    · rw [if_neg hm]
      generalize hi : (SetTable.leap mask (PP mask h k).i (PP mask h k).perturb).1 = i
      have h1 : i < mask + 1 := by rw [← hi]; exact Nat.mod_lt _ (Nat.succ_pos _)
      have h2 := runEnd_le (mask := mask) (i := i) (by omega)
      show i + (SetTable.runEnd mask i - i) ≤ mask
      omega
theorem pos_le (mask : Nat) (h : Int) (k : Nat) : pos mask h k ≤ mask := by have := PP_in mask h k; unfold pos; omega
theorem Ok.same {t t2 : SetTable} {hs : List Int} (O : Ok t hs) (e1 : t2.mask = t.mask) (e2 : t2.place = t.place) (e3 : t2.dummies = t.dummies) : Ok t2 hs := by
  obtain ⟨a, b, c, d, e, f, g⟩ := O
  rw [← e1, ← e2] at *
  rw [← e3] at d
  exact ⟨a, b, c, d, e, f, g⟩
theorem setAddT {D a : Addr} {vs : List Value} {key : List T} {S : List (List T)} {Q : Value → Shared → Prop} (hu : A.units + 1 < cLine) (S0 : St0 c F ((D, setT prog w F S) :: mu) s) (x : STup F (.ref a) vs) (ht : TxL false key vs) (hn : S.length < 60)
    (h : ∀ s', St0 c F ((D, setT prog w F (S ++ [key])) :: mu) s' → Q .none s') : wpAny (model prog w) A (call (.builtin "set.add") [.ref D, .ref a]) Q E s := by
  obtain ⟨o0, ho0, hk0⟩ := S0.hd
  have hT : s.TypeIs (.ref D) "set" := ⟨o0, ho0, by obtain ⟨_, _, _, _, e, _⟩ := hk0; rw [e]⟩
  refine wpAny_call_entry PySem.F.slot_set_add hT PySem.F.entry_set_add ?_ (PySem.F.args_set_add_2 _ _)
  unfold Builtin.«set.add» Builtin.Frozenset.oneOther
  simp only [List.isEmpty_nil, bind_assoc]
  unfold Builtin.Frozenset.addrOf setAdd
  refine wpAny_bind (wpAny_pure ?_)
  try dsimp only
  refine wpAny_bind (wpAny_pure ?_)
  try dsimp only
  refine wpAny_bind ?_
  refine wpAny_holding ?_
  refine wpAny_bind ((tupleKind (strKind prog w)).pyHash hu (TK.of x ht S0.inn) ?_)
  have S1 := S0.tok (s.toks + (tupleKind (strKind prog w)).draws (key.map us))
  generalize hs1 : ({ s with toks := s.toks + (tupleKind (strKind prog w)).draws (key.map us) } : Shared) = s1 at S1 ⊢
  clear hs1 ho0 hk0 hT
  obtain ⟨o, ho, es, ep, t, ks, hk, O, H, hnd, hm, hmk, hroom⟩ := S1.hd
  have hd : o.data = .set es ep t := by rw [hk]
  have hhash : (tupleKind (strKind prog w)).hash (key.map us) = hashT prog w key := rfl
  rw [hhash]
  have hlen : ks.length = es.size := by rw [H.len]; simp
  have hks : ks.length ≤ S.length := nodup_len _ _ hnd fun k hk => (hm k).mp hk
  have hev : t.mask % 2 = 1 := by rcases hmk with e | e | e <;> rw [e]
  unfold setAddHashed setAddHashedIn
  refine wpAny_holding (wpAny_bind (wpAny_setState_of ho hd O.fits ?_))
  dsimp only
  rw [if_neg (show ¬ byScan (.ref a) es = true by simp [byScan, Value.scannable])]
  unfold setSearch
  obtain ⟨K, hK1, hK2, hK3⟩ := O.free (hashT prog w key)
  have hposm : ∀ k, pos t.mask (hashT prog w key) k ≤ t.mask := fun k => pos_le _ _ _
  refine wpAny_bind (searchW hu ho hd O (H.ent S1.inn) (TK.of x ht S1.inn) hK1 hK2 hK3 hev O.fits (fun hin => ?_) (fun hin => ?_) _ 0 100000 none rfl (Nat.zero_le _) ?_ rfl (fun _ _ k' hk' => absurd hk' (Nat.not_lt_zero _)))
  · dsimp only
    refine wpAny_pure (wpAny_pure ⟨.none, rfl, h _ ?_⟩)
    refine S1.upd (fun b o hb e => e) ⟨o, ho, es, ep, t, ks, hk, O, H, hnd, fun k => ?_, hmk, hroom⟩ rfl rfl
    rw [List.mem_append, List.mem_singleton, ← hm k]
    exact ⟨.inl, fun q => q.elim id fun e => e ▸ hin⟩
  · dsimp only
    refine wpAny_bind (wpAny_setState_of ho hd O.fits ?_)
    dsimp only
    have O' := O.put hK2 hK3 (hposm K) (by rw [List.length_map, Array.length_toList]; rcases hmk with e | e | e <;> rw [e] at hroom ⊢ <;> omega)
    generalize hput : t.put (pos t.mask (hashT prog w key) K) = tp at O' ⊢
    have hp1 : tp.1.mask = t.mask := by rw [← hput]; rfl
    obtain ⟨t1, p⟩ := tp
    dsimp only at O' hp1 ⊢
    have fin : ∀ (t2 : SetTable), t2.mask = t1.mask → t2.place = t1.place → t2.dummies = t1.dummies → wpAny (model prog w) A.in1 (do
        storeSet D (SetTable.insertAt es p (hashT prog w key, .ref a)) t2
        if (!false && t2.tooFull) = true then do
          setRelay D (SetTable.grown (es.size + 1))
          pure true
        else pure true) (fun a s' => wpAny (model prog w) A.in1 (ret Value.none) (fun fin s' => ∃ v, fin = Fin.done (Flow.ret v) ∧ Q v s') E s') E s1 := by
      intro t2 e1 e2 e3
      have O2 : Ok t2 ((SetTable.insertAt es p (hashT prog w key, Value.ref a)).toList.map (·.1)) := by
        rw [SetTable.toList_insertAt, List.map_append, List.map_cons, List.map_take, List.map_drop]
        exact O'.same e1 e2 e3
      have H2 : EntF prog w F (ks.take p ++ key :: ks.drop p) (SetTable.insertAt es p (hashT prog w key, Value.ref a)).toList := by
        rw [SetTable.toList_insertAt]
        exact EntF.app (EntF.take p H) ⟨⟨rfl, a, vs, rfl, x, ht⟩, EntF.drop p H⟩
      have hpm : (ks.take p ++ key :: ks.drop p).Perm (key :: ks) := by
        have := List.perm_middle (a := key) (l₁ := ks.take p) (l₂ := ks.drop p)
        rwa [List.take_append_drop] at this
      have hnd2 : (ks.take p ++ key :: ks.drop p).Nodup := hpm.nodup_iff.mpr (List.nodup_cons.mpr ⟨hin, hnd⟩)
      have hm2 : ∀ k, k ∈ ks.take p ++ key :: ks.drop p ↔ k ∈ S ++ [key] := fun k => by
        rw [hpm.mem_iff, List.mem_cons, List.mem_append, List.mem_singleton, hm k, or_comm]
      have hsz : (SetTable.insertAt es p (hashT prog w key, Value.ref a)).size = es.size + 1 := by
        have := O2.len
        rw [← Array.length_toList, ← H2.len, hpm.length_eq, List.length_cons, hlen]
      generalize hes2 : SetTable.insertAt es p (hashT prog w key, Value.ref a) = es2 at O2 H2 hsz ⊢
      unfold storeSet
      refine wpAny_bind (wpAny_bind (wpAny_load ho ?_))
      rw [hd]
      dsimp only
      rw [if_neg (show ¬ (es2.size > sizeLine) by rw [hsz]; unfold sizeLine; omega)]
      refine wpAny_update ho ?_
      have hpl : t2.place.size = es.size + 1 := by
        have := O2.len
        rw [Array.length_toList, List.length_map, Array.length_toList, hsz] at this
        exact this
      have hfull : t2.tooFull = decide ((es.size + 1) * 5 ≥ t.mask * 3) := by
        unfold SetTable.tooFull SetTable.fill
        rw [O2.dum, e1, hp1, hpl]
        simp
      have S2 : St0 c F ((D, fun o => o = { cls := .type "set", data := .set es2 (ep + 1) t2 }) :: mu) { s1 with heap := s1.heap.update D (Obj.putSet es2 t2) } :=
        S1.upd (fun b o hb e => (Heap.get?_update_other _ _ (Ne.symm hb)).trans e) ⟨_, Heap.get?_update_self _ ho (by rw [hk]; rfl), by rw [hk]; rfl⟩ rfl rfl
      by_cases hf : (es.size + 1) * 5 ≥ t.mask * 3
      · rw [hfull, if_pos (by rw [decide_eq_true hf]; rfl)]
        obtain ⟨o2, ho2, hk2⟩ := S2.hd
        have hms : (t.mask = 7 ∧ es.size + 1 = 5) ∨ (t.mask = 31 ∧ es.size + 1 = 19) := by rcases hmk with e | e | e <;> rw [e] at hf hroom <;> omega
        have go : ∀ m, SetTable.sizeAbove (SetTable.grown (es.size + 1)) = m + 1 → (m = 31 ∨ m = 127) → es2.size * 5 < m * 3 → wpAny (model prog w) A.in1 (do setRelay D (SetTable.grown (es.size + 1)); pure true) (fun a s' => wpAny (model prog w) A.in1 (ret Value.none) (fun fin s' => ∃ v, fin = Fin.done (Flow.ret v) ∧ Q v s') E s') E { s1 with heap := s1.heap.update D (Obj.putSet es2 t2) } := fun m h1 h2 h3 =>
          wpAny_bind (setRelayT S2 ho2 hk2 O2 H2 hnd2 hm2 h1 h2 h3 fun s3 S3 => wpAny_pure (wpAny_pure ⟨.none, rfl, h _ S3⟩))
        rcases hms with ⟨_, e⟩ | ⟨_, e⟩
        · exact go 31 (by rw [e]; exact sizeAbove20) (.inl rfl) (by rw [hsz, e]; decide)
        · exact go 127 (by rw [e]; exact sizeAbove76) (.inr rfl) (by rw [hsz, e]; decide)
      · rw [hfull, if_neg (by rw [decide_eq_false hf]; decide)]
        refine wpAny_pure (wpAny_pure ⟨.none, rfl, h _ (S2.weak fun o ho => ?_)⟩)
        exact ⟨es2, ep + 1, t2, _, ho, O2, H2, hnd2, hm2, by rw [e1, hp1]; exact hmk, by rw [hsz, e1, hp1]; omega⟩
    by_cases hpn : t1.plain = true
    · rw [if_pos hpn]
      refine wpAny_bind (hashByAny S1 x ht fun b => ?_)
      cases b with
      | true => exact fin t1 rfl rfl rfl
      | false => exact fin { t1 with plain := false } rfl rfl rfl
    · rw [if_neg hpn]
      refine wpAny_bind (wpAny_pure ?_)
      exact fin t1 rfl rfl rfl
  · rcases hmk with e | e | e <;> rw [e] at hK1 <;> unfold SetTable.turns at hK1 <;> omega
end
end Mine
end

section
/-! Q7: the empty set of tuples, its length. -/
set_option maxRecDepth 100000
set_option maxHeartbeats 4000000
namespace Mine
open PySem PySem.Calls PyProof.Rows PySem.W PySem.Builtin

section
variable {prog : Program} {w : World} {A : Around} {E : Value → Shared → Prop} {c : Cx} {F : Fz} {mu : Mu} {s : Shared}

theorem setT_new {o : Obj} (h : set0 w o) : setT prog w F [] o := by
  refine ⟨#[], 0, .fresh 0 0 (!byText w), [], h, ⟨rfl, ?_, ?_, rfl, good7, (by show 0 < 7 + 1; decide), ?_⟩, trivial, List.nodup_nil, fun k => Iff.rfl, .inl rfl, (by show 0 * 5 < 7 * 3; decide)⟩
  · exact List.Pairwise.nil
  · intro j hj; cases hj
  · intro i j h hi; cases hi

/-- len of a set that stands still -/
theorem lenSetT {a : Addr} {o : Obj} {S : List (List T)} {Q : Value → Shared → Prop} (S0 : St0 c F mu s) (hF : F a = some o) (hk : setT prog w F S o)
    (h : ∀ (n : Nat) t s', (∃ ks : List (List T), ks.Nodup ∧ (∀ k, k ∈ ks ↔ k ∈ S) ∧ n = ks.length) → St0 c F mu s' → Q (.int n t) s') : wpAny (model prog w) A (call (.builtin "len") [.ref a]) Q E s := by
  obtain ⟨es, ep, t, ks, rfl, O, H, hnd, hm, hmk, hroom⟩ := hk
  refine call_len_set (S0.inn _ _ hF) ?_ rfl O.fits (by rcases hmk with e | e | e <;> rw [e] at hroom <;> omega) ?_
  · exact ⟨rfl, rfl, rfl⟩
  · refine h _ _ _ ⟨ks, hnd, hm, by rw [H.len]; simp⟩ (S0.tok _)
end
end Mine
end

section
/-! S6: a set comprehension with two fors. -/
set_option maxRecDepth 100000
set_option maxHeartbeats 4000000
namespace Mine
open PySem PySem.Calls PyProof.Rows PySem.W PySem.Builtin

theorem compTurn_set2 (elt t1 i1 t2 i2 : Expr) (scope : Scope) (pos : Pos) (it acc : Value) (env : Env) :
    compTurn (.SetComp elt [⟨t1, i1, [], 0⟩, ⟨t2, i2, [], 0⟩] scope pos) 0 it acc env = (standAt i1.pos >>= fun _ => pyNext it >>= fun r => match r with
      | none => pure (.done .next)
      | some v => letOwnedTupleGo t1 it v >>= fun _ => assign t1 env v >>= fun _ =>
        (eval i2 env >>= fun x => standAt i2.pos >>= fun _ => foldedSetIterable i2 env x >>= fun x => holding [x] (pyIter x) >>= fun it2 => runOwn (.compStart (.SetComp elt [⟨t1, i1, [], 0⟩, ⟨t2, i2, [], 0⟩] scope pos) 1 it2 acc env) env >>= fun _ => pure ()) >>= fun _ =>
        again (.compLoop (.SetComp elt [⟨t1, i1, [], 0⟩, ⟨t2, i2, [], 0⟩] scope pos) 0 it acc env)) := by
  have e : compTurn (.SetComp elt [⟨t1, i1, [], 0⟩, ⟨t2, i2, [], 0⟩] scope pos) 0 it acc env = (standAt i1.pos >>= fun _ => pyNext it >>= fun r => match r with
      | none => pure (.done .next)
      | some v => letOwnedTupleGo t1 it v >>= fun _ => assign t1 env v >>= fun _ =>
        eval i2 env >>= fun x => standAt i2.pos >>= fun _ => foldedSetIterable i2 env x >>= fun x => holding [x] (pyIter x) >>= fun it2 => runOwn (.compStart (.SetComp elt [⟨t1, i1, [], 0⟩, ⟨t2, i2, [], 0⟩] scope pos) 1 it2 acc env) env >>= fun _ =>
        again (.compLoop (.SetComp elt [⟨t1, i1, [], 0⟩, ⟨t2, i2, [], 0⟩] scope pos) 0 it acc env)) := by rfl
  rw [e]
  simp only [bind_assoc, pure_bind]
theorem compTurn_set2' (elt t1 i1 t2 i2 : Expr) (scope : Scope) (pos : Pos) (it acc : Value) (env : Env) :
    compTurn (.SetComp elt [⟨t1, i1, [], 0⟩, ⟨t2, i2, [], 0⟩] scope pos) 1 it acc env = (standAt i2.pos >>= fun _ => pyNext it >>= fun r => match r with
      | none => pure (.done .next)
      | some v => letOwnedTupleGo t2 it v >>= fun _ => assign t2 env v >>= fun _ => (eval elt env >>= fun v => standAt elt.pos >>= fun _ => call (.builtin "set.add") [acc, v] >>= fun _ => pure ()) >>= fun _ =>
        again (.compLoop (.SetComp elt [⟨t1, i1, [], 0⟩, ⟨t2, i2, [], 0⟩] scope pos) 1 it acc env)) := by rfl

section
variable {prog : Program} {w : World} {A : Around} {s : Shared} {env : Env}
theorem inner2 {elt t1 i1 t2 i2 : Expr} {scope : Scope} {pos : Pos} {acc : Value} {Q : Unit → Shared → Prop}
    (Inv : Nat → Fz → (PySem.Str → Option Value) → Mu → Prop)
    (hit : wpAny (model prog w) A (eval i2 env) (fun x s₁ => ∃ c₁ F₁ m₁ mu₁ n item, St c₁ F₁ env.locals m₁ mu₁ s₁ ∧ ItOf prog w A F₁ x n item ∧ Inv 0 F₁ m₁ mu₁ ∧
      (∀ i v I K m F' mu' s', i < n → item i v → F₁.Le F' → Inv i F' m mu' → St c₁ F' env.locals m ((I, K) :: mu') s' →
        wpAny (model prog w) A (assign t2 env v) (fun _ s₂ => wpAny (model prog w) A (eval elt env) (fun y s₃ => wpAny (model prog w) A (call (.builtin "set.add") [acc, y]) (fun _ s₄ =>
          ∃ m' F'' mu'', F'.Le F'' ∧ St c₁ F'' env.locals m' ((I, K) :: mu'') s₄ ∧ Inv (i + 1) F'' m' mu'') NE s₃) NE s₂) NE s') ∧
      (∀ F' m mu' s', F₁.Le F' → Inv n F' m mu' → St c₁ F' env.locals m mu' s' → Q () s')) NE s)
    (hs : ∀ x, foldedSetIterable i2 env x = pure x := by intro _; rfl) :
    wpAny (model prog w) A (eval i2 env >>= fun x => standAt i2.pos >>= fun _ => foldedSetIterable i2 env x >>= fun x => holding [x] (pyIter x) >>= fun it2 => runOwn (.compStart (.SetComp elt [⟨t1, i1, [], 0⟩, ⟨t2, i2, [], 0⟩] scope pos) 1 it2 acc env) env >>= fun _ => pure ()) Q NE s := by
  refine wpAny_bind (wpAny_mono hit (fun x s₁ h => ?_) fun _ _ e => e)
  obtain ⟨c₁, F₁, m₁, mu₁, n, item, S₁, hIt, hI, turn, fin⟩ := h
  refine wpAny_bind (wpAny_standAt ?_)
  rw [hs]
  refine wpAny_bind (wpAny_pure ?_)
  refine wpAny_bind (wpAny_holding (hIt s₁ _ _ S₁.inn fun I K h₂ tk hI' hk₂ hKI W => ?_))
  have T₁ : St0 c₁ F₁ ((I, K 0) :: (env.locals, nsIs m₁) :: mu₁) { s₁ with heap := h₂, toks := tk } := S₁.new_at hI' hk₂ hKI rfl rfl
  have T₂ : St c₁ F₁ env.locals m₁ ((I, K 0) :: mu₁) { s₁ with heap := h₂, toks := tk } := T₁.swap
  refine wpAny_bind (wpAny_runOwn (h := none) ?_ (by intro q; cases q))
  rw [Around.mark_none]
  refine compStartW W T₂.inn T₂.swap.hd rfl ?_
  refine compIter (compTurn_set2' _ _ _ _ _ _ _ _ _ _) W (.refl _) Inv T₂ hI (fun i v m F' mu' s' hi hv hle hInv T => ?_) fun F' m mu' s' hle hInv T => wpAny_pure (fin F' m mu' s' hle hInv T)
  refine wpAny_mono (turn i v I (K (i + 1)) m F' mu' s' hi hv hle hInv T) (fun _ s₂ h => ?_) fun _ _ e => e
  exact wpAny_bind (wpAny_mono h (fun y s₃ h => wpAny_bind (wpAny_standAt (wpAny_bind (wpAny_mono h (fun _ s₄ h => wpAny_pure h) fun _ _ e => e)))) fun _ _ e => e)
end
end Mine
end

section
/-! W0: rules for law. -/
set_option maxRecDepth 100000
set_option maxHeartbeats 4000000
namespace Mine
open PySem PySem.Calls PyProof.Rows PySem.W PySem.Builtin

section
variable {prog : Program} {w : World} {A : Around} {E : Value → Shared → Prop} {c : Cx} {F : Fz} {mu : Mu} {s : Shared}

theorem neListS {vs : List Value} {l l2 : Addr} {Q : Value → Shared → Prop} (S : St0 c F mu s) (hl : SList F (.ref l) vs) (hl2 : SList F (.ref l2) []) (hu : A.units < cLine) (h : Q (.bool (decide (vs ≠ []))) s) :
    wpAny (model prog w) A (compareOp .NotEq (.ref l) (.ref l2)) Q E s := by
  cases vs with
  | nil =>
    exact SeqAt.RcNeAt.lists (e := fun _ => true) (hl.isList S.inn) (hl2.isList S.inn) rfl hu (fun j h1 _ => absurd h1 (by simp)) prog w E Q (by simpa using h)
  | cons v r =>
    exact SeqAt.RcNeAt.lists_lengths (hl.isList S.inn) (hl2.isList S.inn) (by simp) hu prog w E Q (by simpa using h)

/-- list(l) -/
theorem listS {vs : List Value} {l : Addr} {Q : Value → Shared → Prop} (S : St0 c F mu s) (hl : SList F (.ref l) vs) (hz : vs.length ≤ 1000000)
    (h : ∀ a F' s', F.Le F' → St0 c F' mu s' → SList F' (.ref a) vs → Q (.ref a) s') : wpAny (model prog w) A (call (.type "list") [.ref l]) Q E s := by
  obtain ⟨o, ho, hc, n, hd⟩ := hl.isList S.inn
  refine call_list_seq l (.inl rfl) ho hc hd (fun h' c' hk hn => ?_) (by rw [List.size_toArray]; unfold sizeLine; omega)
  have S1 : St0 c F ((s.heap.objs.size, lst vs) :: mu) { s with heap := h' } := S.new_at (get_none_size _) hk ⟨_, hn, rfl, rfl, _, rfl⟩ rfl rfl
  obtain ⟨o', ho', hle, hF, S2⟩ := S1.freeze
  exact h _ _ _ hle S2 ⟨_, o', rfl, hF, ho'⟩
end
end Mine
end

section
/-! W1: law: the frame, the first statements. -/
set_option maxRecDepth 100000
set_option maxHeartbeats 4000000
namespace Mine
open PySem PySem.Calls PyProof.Rows PySem.W PySem.Builtin

theorem perm_at {α : Type} : ∀ {l : List α} {i : Nat} {x : α}, l[i]? = some x → l.Perm (x :: l.eraseIdx i)
  | y :: l, 0, x, h => by cases h; exact .refl _
  | y :: l, i + 1, x, h => ((perm_at (l := l) (i := i) (by simpa using h)).cons y).trans (.swap _ _ _)
theorem perm_set {α : Type} : ∀ {l : List α} {i : Nat} {x y : α}, l[i]? = some x → (y :: l.eraseIdx i).Perm (l.set i y)
  | _ :: l, 0, x, y, h => .refl _
  | z :: l, i + 1, x, y, h => (List.Perm.swap _ _ _).trans ((perm_set (l := l) (i := i) (x := x) (by simpa using h)).cons z)

section
variable {prog : Program} {w : World} {M : Model} {A : Around} {E : Value → Shared → Prop} {c : Cx} {F : Fz} {m : PySem.Str → Option Value} {mu : Mu} {s : Shared} {env : Env} {sc : Scope} {L : Addr}

theorem stcI (i : Nat) {x : PySem.Str} {v : Value} {a : Addr} {v₀ : Option Value} {Q : Unit → Shared → Prop} (S : St c F L m mu s) (hi : mu[i]? = some (a, cellIs v₀)) (he : EnvOk env sc) (hc : env.cells.lookup x = some a)
    (h : ∀ s', St c F L m (mu.set i (a, cellIs (some v))) s' → Q () s')
    (hk : sc.kind = .function := by rfl) (hl : sc.names.lookup x = some .cell := by rfl) : wpAny M A (storeName env x v) Q E s :=
  stc' (S.perm ((perm_at hi).cons _)) he hc (fun s' S' => h s' (S'.perm ((perm_set hi).cons _))) hk hl

/-- the cells of law: rooted, octets, rows, count, steps, shared, order -/
structure LCells (env : Env) (a1 a2 a3 a4 a5 a6 a7 : Addr) : Prop where
  e : env.cells = [(("order" : PySem.Str), a7), (("shared" : PySem.Str), a6), (("steps" : PySem.Str), a5), (("count" : PySem.Str), a4), (("rows" : PySem.Str), a3), (("octets" : PySem.Str), a2), (("rooted" : PySem.Str), a1)]
def lMu (a1 a2 a3 a4 a5 a6 a7 : Addr) (v1 v2 v3 v4 v5 v6 v7 : Option Value) : Mu :=
  [(a7, cellIs v7), (a6, cellIs v6), (a5, cellIs v5), (a4, cellIs v4), (a3, cellIs v3), (a2, cellIs v2), (a1, cellIs v1)]

/-- law's statements -/
def lawSt : Stmt := nth 22
def lawI (i : Nat) : Stmt := (fBody lawSt).getD i (.Pass default)
end

section
variable {prog : Program} {w : World} {A : Around} {E : Value → Shared → Prop} {H : Heap} {mg mb : PySem.Str → Option Value} {F : Fz} {m : PySem.Str → Option Value} {mu : Mu} {s s0 : Shared} {env : Env} {a1 a2 a3 a4 a5 a6 a7 : Addr} {F0 : Fz} {Q : Flow → Shared → Prop}

theorem law0 (B : Bs H mg mb) (G : Gl mg) (he : EnvOk env (fScope lawSt)) (hr : Rm A 30) (S : St (cx H F0 s0) F env.locals m mu s) {l : Addr} {vs : List Value} {ns : List Int} (hm : m "script" = some (.ref l)) (hl : SList F (.ref l) vs) (hi : IntsAre vs ns) (hz : vs.length ≤ 63)
    (h : ∀ F' s' l' vs' ns', F.Le F' → SList F' (.ref l') vs' → IntsAre vs' ns' → vs'.length ≤ 63 → St (cx H F0 s0) F' env.locals (upd m "numbers" (.ref l')) mu s' → Q .next s') :
    wpAny (model prog w) A (exec (lawI 0) env) Q E s := by
  have hh : A.handled = none := hr.hd
  refine wpAny_Assign_Name (wpAny_IfExp (wpAny_isTrue_Compare1 (ld' S he hm (List_ (args_nil (newListF S (by simp) fun e0 F₁ s3 hle S3 he0 => neListS S3 (hl.le hle) he0 (hr.le (by omega : 1 ≤ 30)).c (wpAny_truthy_bool ?_)))))))
  by_cases hv : vs = []
  · rw [decide_eq_false (by simpa using hv), if_neg Bool.false_ne_true]
    refine List_ ?_
    refine args_cons (constI S3 fun s4 t1 S4 => ?_)
    refine args_cons (constI S4 fun s5 t2 S5 => ?_)
    refine args_cons (constI S5 fun s6 t3 S6 => ?_)
    refine args_cons (constI S6 fun s7 t4 S7 => ?_)
    refine args_cons (constI S7 fun s8 t5 S8 => ?_)
    refine args_cons (constI S8 fun s9 t6 S9 => ?_)
    refine args_cons (constI S9 fun s10 t7 S10 => ?_)
    refine args_cons (constI S10 fun s11 t8 S11 => ?_)
    refine args_cons (constI S11 fun s12 t9 S12 => ?_)
    refine args_nil (newListF S12 (by simp) fun a F₂ s4 hle2 S4 hla => ?_)
    refine st' S4 he fun s5 S5 => ?_
    exact h _ _ a _ _ (hle.trans hle2) hla (.cons _ _ (.cons _ _ (.cons _ _ (.cons _ _ (.cons _ _ (.cons _ _ (.cons _ _ (.cons _ _ (.cons _ _ .nil))))))))) (by simp) S5
  · rw [decide_eq_true (by simpa using hv), if_pos rfl]
    refine cT1 (fun _ h => ldB S3 B G he h) (ld' S3 he hm (listS S3 (hl.le hle) (by omega) fun a F₂ s4 hle2 S4 hla => ?_))
    refine st' S4 he fun s5 S5 => ?_
    exact h _ _ a vs ns (hle.trans hle2) hla hi hz S5

/-- an int compared with a small one by == -/
theorem eqI {c : Cx} {a b : Int} {t u : Tok} {Q : Value → Shared → Prop} (S : St0 c F mu s) (h : Q (.bool (decide (a = b))) s) : wpAny (model prog w) A (compareOp .Eq (.int a t) (.int b u)) Q E s := by
  refine P.eq_int ?_
  have e : (a == b) = decide (a = b) := rfl
  rw [e]; exact h

theorem law1 (B : Bs H mg mb) (G : Gl mg) (he : EnvOk env (fScope lawSt)) (hr : Rm A 30) (hc : LCells env a1 a2 a3 a4 a5 a6 a7) {v1 v2 v3 v4 v5 v6 v7 : Option Value} (S : St (cx H F0 s0) F env.locals m (lMu a1 a2 a3 a4 a5 a6 a7 v1 v2 v3 v4 v5 v6 v7) s) {l : Addr} {vs : List Value} {ns : List Int} (hm : m "numbers" = some (.ref l)) (hl : SList F (.ref l) vs) (hi : IntsAre vs ns)
    (h : ∀ b s', St (cx H F0 s0) F env.locals m (lMu a1 a2 a3 a4 a5 a6 a7 (some (.bool b)) v2 v3 v4 v5 v6 v7) s' → Q .next s') :
    wpAny (model prog w) A (exec (lawI 1) env) Q E s := by
  have hh : A.handled = none := hr.hd
  refine wpAny_Assign_Name ?_
  refine wpAny_Compare1 ?_
  refine wpAny_BinOp ?_
  refine cB1 (fun _ h => ldB S B G he h) (ld' S he hm (sumS hh S hl hi fun s2 t2 S2 => ?_))
  refine constI S2 fun s3 t3 S3 => modI (by decide) S3 fun s4 t4 S4 => constI S4 fun s5 t5 S5 => eqI S5 ?_
  exact stcI 6 S5 rfl he (by rw [hc.e]; rfl) fun s6 S6 => h _ _ S6

theorem law2 (B : Bs H mg mb) (G : Gl mg) (he : EnvOk env (fScope lawSt)) (hr : Rm A 30) (hc : LCells env a1 a2 a3 a4 a5 a6 a7) {v1 v2 v3 v4 v5 v6 v7 : Option Value} (S : St (cx H F0 s0) F env.locals m (lMu a1 a2 a3 a4 a5 a6 a7 v1 v2 v3 v4 v5 v6 v7) s) {l : Addr} {vs : List Value} {ns : List Int} (hm : m "numbers" = some (.ref l)) (hl : SList F (.ref l) vs) (hi : IntsAre vs ns)
    (h : ∀ b s', St (cx H F0 s0) F env.locals m (lMu a1 a2 a3 a4 a5 a6 a7 v1 (some (.bool b)) v3 v4 v5 v6 v7) s' → Q .next s') :
    wpAny (model prog w) A (exec (lawI 2) env) Q E s := by
  have hh : A.handled = none := hr.hd
  refine wpAny_Assign_Name ?_
  refine wpAny_Compare1 ?_
  refine wpAny_BinOp ?_
  refine wpAny_BinOp ?_
  refine cB1 (fun _ h => ldB S B G he h) (ld' S he hm (sumS hh S hl hi fun s2 t2 S2 => ?_))
  refine constI S2 fun s3 t3 S3 => fdivI (.inr rfl) S3 fun s4 t4 S4 => constI S4 fun s5 t5 S5 => modI (by decide) S5 fun s6 t6 S6 => constI S6 fun s7 t7 S7 => eqI S7 ?_
  exact stcI 5 S7 rfl he (by rw [hc.e]; rfl) fun s6 S6 => h _ _ S6

theorem law3 (he : EnvOk env (fScope lawSt)) (hc : LCells env a1 a2 a3 a4 a5 a6 a7) {v1 v3 v4 v5 v6 v7 : Option Value} {oct : Bool} (S : St (cx H F0 s0) F env.locals m (lMu a1 a2 a3 a4 a5 a6 a7 v1 (some (.bool oct)) v3 v4 v5 v6 v7) s)
    (h : ∀ t s', St (cx H F0 s0) F env.locals (upd m "slash" (tx oct [47] t)) (lMu a1 a2 a3 a4 a5 a6 a7 v1 (some (.bool oct)) v3 v4 v5 v6 v7) s' → Q .next s') :
    wpAny (model prog w) A (exec (lawI 3) env) Q E s := by
  refine wpAny_Assign_Name (wpAny_IfExp (wpAny_isTrue_value (ldc' (a := a2) he (by rw [hc.e]; rfl) (S.cell (v := some (.bool oct)) (by simp [lMu])) (wpAny_truthy_bool ?_))))
  cases oct with
  | true =>
    rw [if_pos rfl]
    exact constB S fun s2 t S2 => st' S2 he fun s3 S3 => h _ _ S3
  | false =>
    rw [if_neg Bool.false_ne_true]
    exact constL [47] S fun s2 t S2 => st' S2 he fun s3 S3 => h _ _ S3

theorem law4 {f19 f18 : Addr} {d19 d18 : FuncData} (B : Bs H mg mb) (G : Gl mg) (X : FnAt H mg "_law_places" (nth 19) f19 d19) (X1 : FnAt H mg "_law_piece" (nth 18) f18 d18) (he : EnvOk env (fScope lawSt)) (hr : Rm A 30) (S : St (cx H F0 s0) F env.locals m mu s) {l : Addr} {vs : List Value} {ns : List Int} (hm : m "numbers" = some (.ref l)) (hl : SList F (.ref l) vs) (hi : IntsAre vs ns) (hz : vs.length ≤ 63)
    (h : ∀ v pss F' s', F.Le F' → Places F' v pss → St (cx H F0 s0) F' env.locals (upd m "spelled" v) mu s' → Q .next s') :
    wpAny (model prog w) A (exec (lawI 4) env) Q E s := by
  refine wpAny_Assign_Name ?_
  refine cF S rfl B X he (args_cons (ld' S he hm (args_nil ⟨fun _ e => e, ?_⟩)))
  refine callS S (placesC B G X X1 S.pre (hr.le (by omega)) l vs ns hl hi (by omega)) fun v F' s' hle S' hp => ?_
  obtain ⟨pss, hp⟩ := hp
  exact st' S' he fun s3 S3 => h _ _ _ _ hle hp S3
end
end Mine
end

section
/-! W2: law: rows, crooked, plain, count. -/
set_option maxRecDepth 100000
set_option maxHeartbeats 4000000
namespace Mine
open PySem PySem.Calls PyProof.Rows PySem.W PySem.Builtin

def keepR (ps : List T) : List T := ps.filter keepL

section
variable {prog : Program} {w : World} {A : Around} {E : Value → Shared → Prop} {H : Heap} {mg mb : PySem.Str → Option Value} {F : Fz} {m : PySem.Str → Option Value} {mu : Mu} {s s0 : Shared} {env : Env} {a1 a2 a3 a4 a5 a6 a7 : Addr} {F0 : Fz} {Q : Flow → Shared → Prop}

theorem law5 (he : EnvOk env (fScope lawSt)) (hr : Rm A 30) (hc : LCells env a1 a2 a3 a4 a5 a6 a7) {v1 v2 v3 v4 v5 v6 v7 : Option Value} (S : St (cx H F0 s0) F env.locals m (lMu a1 a2 a3 a4 a5 a6 a7 v1 v2 v3 v4 v5 v6 v7) s) {v : Value} {pss : List (List T)} (hm : m "spelled" = some v) (hp : Places F v pss)
    (h : ∀ D F' s' ys, F.Le F' → SList F' (.ref D) ys → SLs false F' (pss.map keepR) ys → St (cx H F0 s0) F' env.locals m (lMu a1 a2 a3 a4 a5 a6 a7 v1 v2 (some (.ref D)) v4 v5 v6 v7) s' → Q .next s') :
    wpAny (model prog w) A (exec (lawI 5) env) Q E s := by
  have hh : A.handled = none := hr.hd
  obtain ⟨vs, hv, hvs⟩ := hp.is
  obtain ⟨l, _, rfl, _, _⟩ := id hv
  have hvl : vs.length = pss.length := hvs.length.symm
  have h6 := hp.high
  refine asgPlain he rfl (by rfl) ?_
  refine lcomp (cl := []) hh he (by rw [hc.e]; rfl) (by rfl) (fun i F ys => SLs false F ((pss.take i).map keepR) ys) (fun _ _ _ _ l h => h.le l) (ld' S he hm ?_)
  refine ⟨_, _, _, _, _, S, itList hh hv, by omega, .nil, ?_, ?_⟩
  · intro cenv i v I K D m F' ys s' heC hcC hi hvi hle hJ hys S'
    refine wpAny_assign_Name (st' S' heC fun s1 S1 => wpAny_tests_nil ?_)
    rw [if_pos rfl]
    obtain ⟨ps, v', h1, h2, h3⟩ := Paired.get hvs i (by omega)
    rw [hvi] at h2; cases h2
    obtain ⟨ws, hws, hwt⟩ := h3
    have hpm : ps ∈ pss := List.mem_of_getElem? h1
    have hp6 := hp.short ps hpm
    have hwl : ws.length = ps.length := hwt.length.symm
    obtain ⟨l2, _, rfl, _, _⟩ := id hws
    refine lcomp (cl := []) hh heC (by rw [hcC]; rfl) (by rfl) (fun i F ys => TxL false ((ps.take i).filter keepL) ys) (fun _ _ _ _ l h => h) (ld' S1 heC rfl ?_)
    refine ⟨_, _, _, _, _, S1, itList hh (hws.le hle), by omega, .nil, ?_, ?_⟩
    · intro cenv2 i2 v2 I2 K2 D3 m2 F2 ys3 s3 heC2 hcC2 hi2 hv2 hle2 hJ3 hys3 S3
      refine wpAny_assign_Name (st' S3 heC2 fun s4 S4 => wpAny_tests_one ?_)
      obtain ⟨p2, t2, hp2, hvp2⟩ := hwt.get i2 (by omega)
      rw [hv2] at hvp2; cases hvp2
      refine wpAny_isTrue_Compare1 (ld' S4 heC2 rfl ?_)
      refine Tuple_ ?_
      refine args_cons (constL [] S4 fun s5 t5 S5 => ?_)
      refine args_cons (constL [46] S5 fun s6 t6 S6 => ?_)
      refine args_nil (newTupleS S6 (by simp) fun ta F3 s7 hle3 S7 _ hta => ?_)
      refine notin_tuple_strs (ys := [us [], us [46]]) (hta.isTup S7.inn) (.cons _ _ (.cons _ _ .nil)) (wpAny_truthy_bool ?_)
      have hkp : (!([us [], us [46]].any (· == us p2))) = keepL p2 := by
        unfold keepL
        by_cases h1 : p2 = []
        · subst h1; simp
        · by_cases h2 : p2 = [46]
          · subst h2; simp
          · have e1 : ¬ us [] = us p2 := fun e => h1 (us_inj.mp e).symm
            have e2 : ¬ us [46] = us p2 := fun e => h2 (us_inj.mp e).symm
            simp [h1, h2, e1, e2]
      rw [hkp, take_snoc hp2, List.filter_append]
      cases hk : keepL p2 with
      | true =>
        rw [if_pos rfl]
        refine ld' S7 heC2 rfl ⟨_, F3, hle3, S7, ?_⟩
        rw [List.filter_cons_of_pos hk]
        exact hJ3.snoc ⟨t2, rfl⟩
      | false =>
        rw [if_neg Bool.false_ne_true]
        refine ⟨_, F3, hle3, S7, ?_⟩
        rw [List.filter_cons_of_neg (by rw [hk]; exact Bool.false_ne_true)]
        simpa using hJ3
    · intro D3 F2 ys3 s3 hle2 S3 hD3 hJ3 hlen3
      refine ⟨_, F2, hle2, S3, ?_⟩
      rw [take_snoc h1, List.map_append]
      refine (hJ.le hle2).snoc ⟨ys3, hD3, ?_⟩
      rw [List.take_of_length_le (by omega)] at hJ3
      exact hJ3
  · intro D F2 ys s2 hle2 S2 hD hJ hlen
    rw [List.take_of_length_le (by omega)] at hJ
    exact stcI 4 S2 rfl he (by rw [hc.e]; rfl) fun s3 S3 => h _ _ _ _ hle2 hD hJ S3

/-- the whole paths -/
def headC (r : Bool) : T := if r then [47] else [46, 47]
def headP (r : Bool) : T := if r then [47] else []
def crookT (r : Bool) (ps : List T) : T := headC r ++ joinL ps
def plainT (r : Bool) (ps : List T) : T := headP r ++ joinL ps

theorem joinP_len {ps : List T} (h1 : ps.length ≤ 6) (h2 : ∀ p ∈ ps, Piece p) : (joinL ps).length ≤ 18 := by
  have := joinL_len ps 2 fun p hp => (h2 p hp).short
  have h3 : ps.length * (2 + 1) ≤ 6 * 3 := Nat.mul_le_mul_right _ h1
  omega
theorem joinP_byt : ∀ {ps : List T}, (∀ p ∈ ps, Byt p) → Byt (joinL ps)
  | [], _ => fun _ h => nomatch h
  | [p], h => h p List.mem_cons_self
  | p :: q :: r, h => fun c hc => by
    rcases List.mem_append.mp hc with hc | hc
    · exact h p List.mem_cons_self c hc
    · rcases List.mem_cons.mp hc with rfl | hc
      · decide
      · exact joinP_byt (fun x hx => h x (.tail _ hx)) c hc

theorem law6 {f20 : Addr} {d20 : FuncData} (B : Bs H mg mb) (X : FnAt H mg "_law_kind" (nth 20) f20 d20) (he : EnvOk env (fScope lawSt)) (hr : Rm A 30) (hc : LCells env a1 a2 a3 a4 a5 a6 a7) {r oct : Bool} {v3 v4 v5 v6 v7 : Option Value} (S : St (cx H F0 s0) F env.locals m (lMu a1 a2 a3 a4 a5 a6 a7 (some (.bool r)) (some (.bool oct)) v3 v4 v5 v6 v7) s) {v : Value} {pss : List (List T)} (hm : m "spelled" = some v) (hp : Places F v pss)
    (h : ∀ D F' s' ys, F.Le F' → SList F' (.ref D) ys → TxL oct (pss.map (crookT r)) ys → St (cx H F0 s0) F' env.locals (upd m "crooked" (.ref D)) (lMu a1 a2 a3 a4 a5 a6 a7 (some (.bool r)) (some (.bool oct)) v3 v4 v5 v6 v7) s' → Q .next s') :
    wpAny (model prog w) A (exec (lawI 6) env) Q E s := by
  have hh : A.handled = none := hr.hd
  obtain ⟨vs, hv, hvs⟩ := hp.is
  obtain ⟨l, _, rfl, _, _⟩ := id hv
  have hvl : vs.length = pss.length := hvs.length.symm
  have h6 := hp.high
  refine lcompA (cl := [(("rooted" : PySem.Str), a1), (("octets" : PySem.Str), a2)]) hh he rfl (by rfl) (by rw [hc.e]; rfl) (by rfl) (fun i F ys => TxL oct ((pss.take i).map (crookT r)) ys) (fun _ _ _ _ l h => h) (ld' S he hm ?_)
  refine ⟨_, _, _, _, _, _, S, itList hh hv, by omega, .nil, ?_, ?_⟩
  · intro cenv i v I K D m F' ys s' heC hcC hi hvi hle hJ hys S'
    refine wpAny_assign_Name (st' S' heC fun s1 S1 => wpAny_tests_nil ?_)
    rw [if_pos rfl]
    obtain ⟨ps, v', h1, h2, h3⟩ := Paired.get hvs i (by omega)
    rw [hvi] at h2; cases h2
    obtain ⟨ws, hws, hwt⟩ := h3
    have hpm : ps ∈ pss := List.mem_of_getElem? h1
    have hp6 := hp.short ps hpm
    have hpp := hp.piece ps hpm
    have hlen := joinP_len hp6 hpp
    obtain ⟨l2, _, rfl, _, _⟩ := id hws
    have o1 := oldCell S1 (S.cell (a := a1) (v := some (.bool r)) (by simp [lMu]))
    refine cF S1 rfl B X heC (args_cons ?_)
    refine wpAny_BinOp (wpAny_IfExp (wpAny_isTrue_value (ldc' (a := a1) heC (by rw [hcC]; rfl) o1 (wpAny_truthy_bool ?_))))
    have fin : ∀ {s5 : Shared} {t5 : Tok}, St (cx (cx H F0 s0).base F s) F' cenv.locals (upd m "pieces" (.ref l2)) [(I, K), (D, lst ys)] s5 →
        wpAny (model prog w) A (call (.ref f20) [tx false (headC r ++ joinL ps) t5, .bool oct]) (fun y s₄ => ∃ m' F'', F'.Le F'' ∧ St (cx (cx H F0 s0).base F s) F'' cenv.locals m' [(I, K), (D, lst ys)] s₄ ∧ TxL oct ((pss.take (i + 1)).map (crookT r)) (ys ++ [y])) NE s5 := by
      intro s5 t5 S5
      refine callS S5 (lawKindC B X S5.pre (hr.le (by omega)) oct _ t5 ?_ ?_) fun v F3 s6 hle3 S6 hv3 => ?_
      · intro c hc
        rcases List.mem_append.mp hc with hc | hc
        · unfold headC at hc; split at hc <;> simp at hc <;> omega
        · exact joinP_byt (fun p hp => (hpp p hp).byt) c hc
      · have : (headC r).length ≤ 2 := by unfold headC; split <;> simp
        rw [List.length_append]; omega
      · obtain ⟨t6, rfl⟩ := hv3
        refine ⟨_, F3, hle3, S6, ?_⟩
        rw [take_snoc h1, List.map_append]
        exact hJ.snoc ⟨t6, rfl⟩
    cases r with
    | true =>
      rw [if_pos rfl]
      refine constL [47] S1 fun s2 t2 S2 => ?_
      refine mcall1 (oct := false) mf_join ?_
      refine constL [47] S2 fun s3 t3 S3 => ?_
      refine ⟨[47], t3, rfl, ?_⟩
      refine ld' S3 heC rfl ?_
      refine joinT (oct := false) S3 ((hws.le hle).isList S3.inn) hwt (fun p hp => by have := (hpp p hp).short; omega) (by omega) fun s4 t4 S4 => ?_
      refine addT S4 (by simp; omega) fun s5 t5 S5 => ?_
      exact args_cons (ldc' (a := a2) heC (by rw [hcC]; rfl) (oldCell S5 (S.cell (a := a2) (v := some (.bool oct)) (by simp [lMu]))) (args_nil ⟨keepF X S1 S5 rfl rfl, fin S5⟩))
    | false =>
      rw [if_neg Bool.false_ne_true]
      refine constL [46, 47] S1 fun s2 t2 S2 => ?_
      refine mcall1 (oct := false) mf_join ?_
      refine constL [47] S2 fun s3 t3 S3 => ?_
      refine ⟨[47], t3, rfl, ?_⟩
      refine ld' S3 heC rfl ?_
      refine joinT (oct := false) S3 ((hws.le hle).isList S3.inn) hwt (fun p hp => by have := (hpp p hp).short; omega) (by omega) fun s4 t4 S4 => ?_
      refine addT S4 (by simp; omega) fun s5 t5 S5 => ?_
      exact args_cons (ldc' (a := a2) heC (by rw [hcC]; rfl) (oldCell S5 (S.cell (a := a2) (v := some (.bool oct)) (by simp [lMu]))) (args_nil ⟨keepF X S1 S5 rfl rfl, fin S5⟩))
  · intro D F2 ys s2 hle2 S2 hD hJ hlen
    rw [List.take_of_length_le (by omega)] at hJ
    exact h _ _ _ _ hle2 hD hJ S2

/-- the rows of names -/
structure Rows (F : Fz) (v : Value) (rows : List (List T)) : Prop where
  is : ∃ vs, SList F v vs ∧ SLs false F rows vs
  low : 2 ≤ rows.length
  high : rows.length ≤ 6
  short : ∀ ps ∈ rows, ps.length ≤ 6
  piece : ∀ ps ∈ rows, ∀ p ∈ ps, Piece p
  keep : ∀ ps ∈ rows, ∀ p ∈ ps, keepL p = true
theorem Rows.le {F F' : Fz} {v : Value} {rows : List (List T)} (R : Rows F v rows) (l : F.Le F') : Rows F' v rows := by
  obtain ⟨vs, h1, h2⟩ := R.is
  exact ⟨⟨vs, h1.le l, h2.le l⟩, R.low, R.high, R.short, R.piece, R.keep⟩
theorem Places.rows {F F' : Fz} {v v' : Value} {pss : List (List T)} (P : Places F v pss) {ys : List Value} (h1 : SList F' v' ys) (h2 : SLs false F' (pss.map keepR) ys) : Rows F' v' (pss.map keepR) := by
  refine ⟨⟨ys, h1, h2⟩, by simpa using P.low, by simpa using P.high, fun ps hp => ?_, fun ps hp p hq => ?_, fun ps hp p hq => ?_⟩
  · obtain ⟨q, hq, rfl⟩ := List.mem_map.mp hp
    exact Nat.le_trans (List.length_filter_le _ _) (P.short q hq)
  · obtain ⟨q, hq', rfl⟩ := List.mem_map.mp hp
    exact P.piece q hq' p (List.mem_filter.mp hq).1
  · obtain ⟨q, hq', rfl⟩ := List.mem_map.mp hp
    exact (List.mem_filter.mp hq).2

theorem law7 {f20 : Addr} {d20 : FuncData} (B : Bs H mg mb) (X : FnAt H mg "_law_kind" (nth 20) f20 d20) (he : EnvOk env (fScope lawSt)) (hr : Rm A 30) (hc : LCells env a1 a2 a3 a4 a5 a6 a7) {r oct : Bool} {v : Value} {v4 v5 v6 v7 : Option Value} (S : St (cx H F0 s0) F env.locals m (lMu a1 a2 a3 a4 a5 a6 a7 (some (.bool r)) (some (.bool oct)) (some v) v4 v5 v6 v7) s) {rows : List (List T)} (hp : Rows F v rows)
    (h : ∀ D F' s' ys, F.Le F' → SList F' (.ref D) ys → TxL oct (rows.map (plainT r)) ys → St (cx H F0 s0) F' env.locals (upd m "plain" (.ref D)) (lMu a1 a2 a3 a4 a5 a6 a7 (some (.bool r)) (some (.bool oct)) (some v) v4 v5 v6 v7) s' → Q .next s') :
    wpAny (model prog w) A (exec (lawI 7) env) Q E s := by
  have hh : A.handled = none := hr.hd
  obtain ⟨vs, hv, hvs⟩ := hp.is
  obtain ⟨l, _, rfl, _, _⟩ := id hv
  have hvl : vs.length = rows.length := hvs.length.symm
  have h6 := hp.high
  refine lcompA (cl := [(("rooted" : PySem.Str), a1), (("octets" : PySem.Str), a2)]) hh he rfl (by rfl) (by rw [hc.e]; rfl) (by rfl) (fun i F ys => TxL oct ((rows.take i).map (plainT r)) ys) (fun _ _ _ _ l h => h) (ldc' (a := a3) he (by rw [hc.e]; rfl) (S.cell (v := some (.ref l)) (by simp [lMu])) ?_)
  refine ⟨_, _, _, _, _, _, S, itList hh hv, by omega, .nil, ?_, ?_⟩
  · intro cenv i v I K D m F' ys s' heC hcC hi hvi hle hJ hys S'
    refine wpAny_assign_Name (st' S' heC fun s1 S1 => wpAny_tests_nil ?_)
    rw [if_pos rfl]
    obtain ⟨ps, v', h1, h2, h3⟩ := Paired.get hvs i (by omega)
    rw [hvi] at h2; cases h2
    obtain ⟨ws, hws, hwt⟩ := h3
    have hpm : ps ∈ rows := List.mem_of_getElem? h1
    have hp6 := hp.short ps hpm
    have hpp := hp.piece ps hpm
    have hlen := joinP_len hp6 hpp
    obtain ⟨l2, _, rfl, _, _⟩ := id hws
    have o1 := oldCell S1 (S.cell (a := a1) (v := some (.bool r)) (by simp [lMu]))
    refine cF S1 rfl B X heC (args_cons ?_)
    refine wpAny_BinOp (wpAny_IfExp (wpAny_isTrue_value (ldc' (a := a1) heC (by rw [hcC]; rfl) o1 (wpAny_truthy_bool ?_))))
    have fin : ∀ {s5 : Shared} {t5 : Tok}, St (cx (cx H F0 s0).base F s) F' cenv.locals (upd m "row" (.ref l2)) [(I, K), (D, lst ys)] s5 →
        wpAny (model prog w) A (call (.ref f20) [tx false (headP r ++ joinL ps) t5, .bool oct]) (fun y s₄ => ∃ m' F'', F'.Le F'' ∧ St (cx (cx H F0 s0).base F s) F'' cenv.locals m' [(I, K), (D, lst ys)] s₄ ∧ TxL oct ((rows.take (i + 1)).map (plainT r)) (ys ++ [y])) NE s5 := by
      intro s5 t5 S5
      refine callS S5 (lawKindC B X S5.pre (hr.le (by omega)) oct _ t5 ?_ ?_) fun v F3 s6 hle3 S6 hv3 => ?_
      · intro c hc
        rcases List.mem_append.mp hc with hc | hc
        · unfold headP at hc; split at hc <;> simp at hc <;> omega
        · exact joinP_byt (fun p hp => (hpp p hp).byt) c hc
      · have : (headP r).length ≤ 2 := by unfold headP; split <;> simp
        rw [List.length_append]; omega
      · obtain ⟨t6, rfl⟩ := hv3
        refine ⟨_, F3, hle3, S6, ?_⟩
        rw [take_snoc h1, List.map_append]
        exact hJ.snoc ⟨t6, rfl⟩
    cases r with
    | true =>
      rw [if_pos rfl]
      refine constL [47] S1 fun s2 t2 S2 => ?_
      refine mcall1 (oct := false) mf_join ?_
      refine constL [47] S2 fun s3 t3 S3 => ?_
      refine ⟨[47], t3, rfl, ?_⟩
      refine ld' S3 heC rfl ?_
      refine joinT (oct := false) S3 ((hws.le hle).isList S3.inn) hwt (fun p hp => by have := (hpp p hp).short; omega) (by omega) fun s4 t4 S4 => ?_
      refine addT S4 (by simp; omega) fun s5 t5 S5 => ?_
      exact args_cons (ldc' (a := a2) heC (by rw [hcC]; rfl) (oldCell S5 (S.cell (a := a2) (v := some (.bool oct)) (by simp [lMu]))) (args_nil ⟨keepF X S1 S5 rfl rfl, fin S5⟩))
    | false =>
      rw [if_neg Bool.false_ne_true]
      refine constL [] S1 fun s2 t2 S2 => ?_
      refine mcall1 (oct := false) mf_join ?_
      refine constL [47] S2 fun s3 t3 S3 => ?_
      refine ⟨[47], t3, rfl, ?_⟩
      refine ld' S3 heC rfl ?_
      refine joinT (oct := false) S3 ((hws.le hle).isList S3.inn) hwt (fun p hp => by have := (hpp p hp).short; omega) (by omega) fun s4 t4 S4 => ?_
      refine addT S4 (by simp; omega) fun s5 t5 S5 => ?_
      exact args_cons (ldc' (a := a2) heC (by rw [hcC]; rfl) (oldCell S5 (S.cell (a := a2) (v := some (.bool oct)) (by simp [lMu]))) (args_nil ⟨keepF X S1 S5 rfl rfl, fin S5⟩))
  · intro D F2 ys s2 hle2 S2 hD hJ hlen
    rw [List.take_of_length_le (by omega)] at hJ
    exact h _ _ _ _ hle2 hD hJ S2

theorem law8 (B : Bs H mg mb) (G : Gl mg) (he : EnvOk env (fScope lawSt)) (hc : LCells env a1 a2 a3 a4 a5 a6 a7) {v : Value} {v1 v2 v4 v5 v6 v7 : Option Value} (S : St (cx H F0 s0) F env.locals m (lMu a1 a2 a3 a4 a5 a6 a7 v1 v2 (some v) v4 v5 v6 v7) s) {rows : List (List T)} (hp : Rows F v rows)
    (h : ∀ t s', St (cx H F0 s0) F env.locals m (lMu a1 a2 a3 a4 a5 a6 a7 v1 v2 (some v) (some (.int rows.length t)) v5 v6 v7) s' → Q .next s') :
    wpAny (model prog w) A (exec (lawI 8) env) Q E s := by
  obtain ⟨vs, hv, hvs⟩ := hp.is
  obtain ⟨l, _, rfl, _, _⟩ := id hv
  have hvl : vs.length = rows.length := hvs.length.symm
  have h6 := hp.high
  refine wpAny_Assign_Name (cB1 (fun _ h => ldB S B G he h) (ldc' (a := a3) he (by rw [hc.e]; rfl) (S.cell (v := some (.ref l)) (by simp [lMu])) (lenS S hv (by omega) fun s2 t2 S2 => ?_)))
  rw [hvl]
  exact stcI 3 S2 rfl he (by rw [hc.e]; rfl) fun s3 S3 => h _ _ S3
end
end Mine
end

section
/-! W3: law: steps, told. -/
set_option maxRecDepth 100000
set_option maxHeartbeats 4000000
namespace Mine
open PySem PySem.Calls PyProof.Rows PySem.W PySem.Builtin

theorem foldl_app (v : Value) : ∀ (n : Nat) (acc : Array Value), List.foldl (fun x1 x2 => x1 ++ x2) acc (List.replicate n #[v]) = acc ++ (List.replicate n v).toArray
  | 0, acc => by simp
  | n + 1, acc => by
    rw [List.replicate_succ, List.foldl_cons, foldl_app v n, List.replicate_succ]
    apply Array.ext'
    simp

theorem rmulA (a : Int) (t : Tok) (l : Addr) (items : Array Value) (n : Nat) (sl : Array (Option Value)) :
    Meets (Builtin.«int.__rmul__» ⟨[.int a t, .ref l], []⟩) (fun _ R s => s.heap.get? l = some { cls := .type "list", dict := none, data := .seq items n, slots := sl } ∧ R (.ok (.ret Value.notImplemented)) s) :=
  .of_wp fun prog w A R s h => by obtain ⟨hp, g, d, tk, os⟩ := s; obtain ⟨hl, h⟩ := h; wp_walk; exact ⟨_, rfl, h⟩
theorem mulA (l : Addr) (items : Array Value) (n : Nat) (sl : Array (Option Value)) (x : Int) (u : Tok) (hc0 : ¬(!Builtin.List.listFitsIndex x) = true) (hc1 : ¬items.size * x.toNat > (2 ^ 63 - 1) / 8) (hc2 : ¬Builtin.List.listTooLong (items.size * x.toNat) = true) :
    Meets (Builtin.«list.__mul__» ⟨[.ref l, .int x u], []⟩) (fun _ R s => s.heap.get? l = some { cls := .type "list", dict := none, data := .seq items n, slots := sl } ∧ R (.ok (.ret (Value.ref s.heap.objs.size))) { s with heap := s.heap.push { cls := Value.type "list", data := Data.seq (List.foldl (fun x1 x2 => x1 ++ x2) #[] (List.replicate (if items.isEmpty = true then 0 else x.toNat) items)) }, toks := s.toks }) :=
  .of_wp fun prog w A R s h => by
    obtain ⟨hp, g, d, tk, os⟩ := s; obtain ⟨hl, h⟩ := h
    have hsz := PySem.AutoListH.joined_fits hc2
    wp_walk; refine wpAny_ite_false (decide_eq_false (Nat.not_lt.mpr hsz)) ?_; wp_walk; exact ⟨_, rfl, h⟩

theorem mulA1 (l : Addr) (items : Array Value) (n : Nat) (sl : Array (Option Value)) (x : Int) (u : Tok) (h1 : items.size = 1) (h2 : 0 ≤ x) (h3 : x ≤ 6) :
    Meets (Builtin.«list.__mul__» ⟨[.ref l, .int x u], []⟩) (fun _ R s => s.heap.get? l = some { cls := .type "list", dict := none, data := .seq items n, slots := sl } ∧ R (.ok (.ret (Value.ref s.heap.objs.size))) { s with heap := s.heap.push { cls := Value.type "list", data := Data.seq (List.foldl (fun x1 x2 => x1 ++ x2) #[] (List.replicate (if items.isEmpty = true then 0 else x.toNat) items)) }, toks := s.toks }) :=
  mulA l items n sl x u (by simp [Builtin.List.listFitsIndex]; omega) (by rw [h1]; omega) (by rw [h1]; simp [Builtin.List.listTooLong, sizeLine]; omega)

section
variable {prog : Program} {w : World} {A : Around} {E : Value → Shared → Prop} {H : Heap} {mg mb : PySem.Str → Option Value} {F : Fz} {m : PySem.Str → Option Value} {mu : Mu} {s s0 : Shared} {env : Env} {a1 a2 a3 a4 a5 a6 a7 : Addr} {F0 : Fz} {Q : Flow → Shared → Prop} {c : Cx}

theorem repL {l : Addr} {v : Value} {n : Nat} {t : Tok} {Q : Value → Shared → Prop} (S : St0 c F mu s) (hl : SList F (.ref l) [v]) (hn : n ≤ 6)
    (h : ∀ a s', s.heap.get? a = none → St0 c F ((a, lst (List.replicate n v)) :: mu) s' → Q (.ref a) s') : wpAny (model prog w) A (binaryOp .Mult (.ref l) (.int n t)) Q E s := by
  obtain ⟨l', ⟨cls, dd, dat, sl⟩, e, ho, hcc, hdd, k, hd⟩ := hl
  cases e
  simp only at hcc hdd hd
  subst hcc hdd hd
  have ho' := S.inn _ _ ho
  generalize hit : ([v] : List Value).toArray = items at ho'
  have h1 : items.size = 1 := by rw [← hit]; rfl
  have fin : Q (.ref s.heap.objs.size) { s with heap := s.heap.push { cls := .type "list", data := .seq (List.foldl (fun x1 x2 => x1 ++ x2) #[] (List.replicate (if items.isEmpty = true then 0 else ((n : Int)).toNat) items)) } } := by
    have e : (if items.isEmpty = true then 0 else ((n : Int)).toNat) = n := by rw [← hit]; simp
    rw [e, ← hit]
    rw [foldl_app]
    refine h _ _ (get_none_size _) (S.push _ rfl ⟨rfl, rfl, 0, ?_⟩)
    simp
  have hx0 : (0 : Int) ≤ n := Int.natCast_nonneg n
  have hx6 : (n : Int) ≤ 6 := by omega
  generalize ((n : Int)) = x at fin hx0 hx6 ⊢
  have hM := mulA1 l items k sl x t h1 hx0 hx6
  have two : wpAny (model prog w) A (call (.builtin "list.__mul__") [.ref l, .int x t]) Q E s :=
    call_meets PySem.F.slot_list_mul ⟨_, ho', rfl⟩ PySem.F.entry_list_mul (PySem.F.args_list_mul_2 _ _) hM (And.intro ho' fin)
  have one : wpAny (model prog w) A (call (.builtin "int.__rmul__") [.int x t, .ref l]) (fun v s' => v = .notImplemented ∧ s'.TypeIs (.ref l) "list" ∧ wpAny (model prog w) A (call (.builtin "list.__mul__") [.ref l, .int x t]) Q E s') E s :=
    call_meets PySem.F.slot_int_rmul (typeIs_int s x t) PySem.F.entry_int_rmul (PySem.F.args_int_rmul_2 _ _) (rmulA x t l items k sl) ⟨ho', rfl, ⟨_, ho', rfl⟩, two⟩
  exact wpAny_binaryOp_repeat_ref (T := "list") (U := "int") (by decide) ⟨_, ho', rfl⟩ (fun s' => typeIs_int s' x t) noFill_list_mul PySem.F.fills_int_mul PySem.F.slot_int_rmul repeat_list PySem.F.slot_int_index.lookup one

/-- steps, open: a frozen list of open lists of ints -/
theorem law9 (B : Bs H mg mb) (G : Gl mg) (he : EnvOk env (fScope lawSt)) (hr : Rm A 30) (hc : LCells env a1 a2 a3 a4 a5 a6 a7) {n : Nat} {t : Tok} {v1 v2 v3 v5 v6 v7 : Option Value} (S : St (cx H F0 s0) F env.locals m (lMu a1 a2 a3 a4 a5 a6 a7 v1 v2 v3 (some (.int n t)) v5 v6 v7) s) (hn : n ≤ 6)
    (h : ∀ D F' s' (bs : Bags), F.Le F' → SList F' (.ref D) (bagVals bs) → bs.length = n → (∀ p ∈ bs, ∃ t, p.2 = List.replicate n (.int 0 t)) → St (cx H F0 s0) F' env.locals m (bagMu bs ++ lMu a1 a2 a3 a4 a5 a6 a7 v1 v2 v3 (some (.int n t)) (some (.ref D)) v6 v7) s' → Q .next s') :
    wpAny (model prog w) A (exec (lawI 9) env) Q E s := by
  have hh : A.handled = none := hr.hd
  refine asgPlain he rfl (by rfl) ?_
  refine lcompX (cl := [(("count" : PySem.Str), a4)]) he (by rw [hc.e]; rfl) (by rfl) (fun i F ys ex => ∃ bs : Bags, ys = bagVals bs ∧ ex = bagMu bs ∧ bs.length = i ∧ ∀ p ∈ bs, ∃ t, p.2 = List.replicate n (.int 0 t)) ?_
  refine cT1 (fun _ h => ldB S B G he h) (ldc' (a := a4) he (by rw [hc.e]; rfl) (S.cell (v := some (.int n t)) (by simp [lMu])) (range1 S (by omega) fun r F₁ s3 hle S3 hit => ?_))
  refine ⟨_, _, _, _, _, S3, hit _ hh, by omega, ⟨[], rfl, rfl, rfl, fun _ h => nomatch h⟩, ?_, ?_⟩
  · rintro cenv i v I K D m' F' ys ex s' heC hcC hi' hv hle' ⟨bs, rfl, rfl, hbl, hbe⟩ hys S'
    obtain ⟨tv, rfl⟩ := hv
    refine wpAny_assign_Name (st' S' heC fun s4 S4 => wpAny_tests_nil ?_)
    rw [if_pos rfl]
    refine wpAny_BinOp (List_ (args_cons (constI S4 fun s5 t5 S5 => args_nil (newListF S5 (by simp) fun a F2 s6 hle2 S6 ha => ?_))))
    refine ldc' (a := a4) heC (by rw [hcC]; rfl) (oldCell S6 (S3.cell (v := some (.int n t)) (by simp [lMu]))) (repL S6 ha hn fun b s7 _ S7 => ?_)
    refine ⟨upd m' "k" (.int (i : Nat) tv), F2, bagMu (bs ++ [(b, List.replicate n (.int 0 t5))]), hle2, ?_, bs ++ [(b, List.replicate n (.int 0 t5))], by simp [bagVals], rfl, by simp [hbl], ?_⟩
    · refine S7.perm ?_
      have e : bagMu (bs ++ [(b, List.replicate n (.int 0 t5))]) = bagMu bs ++ [(b, lst (List.replicate n (.int 0 t5)))] := by simp [bagMu]
      rw [e]
      exact (List.perm_append_singleton (b, lst (List.replicate n (.int 0 t5))) ((cenv.locals, nsIs (upd m' "k" (.int (i : Nat) tv))) :: (I, K) :: (D, lst (bagVals bs)) :: bagMu bs)).symm
    · intro p hp
      rcases List.mem_append.mp hp with hp | hp
      · exact hbe p hp
      · rw [List.mem_singleton.mp hp]; exact ⟨t5, rfl⟩
  rintro D F₂ F₃ ys ex s4 hle2 hle3 S4 hD ⟨bs0, rfl, rfl, hbl0, hbe0⟩ hlen
  have S5 : St (cx H F0 s0) F₃ env.locals m (lMu a1 a2 a3 a4 a5 a6 a7 v1 v2 v3 (some (.int n t)) v5 v6 v7 ++ bagMu bs0) s4 := by
    refine S4.perm (List.perm_middle.trans (List.Perm.cons _ ?_))
    exact List.perm_append_comm
  refine stcI (a := a5) (v₀ := v5) 2 S5 rfl he (by rw [hc.e]; rfl) fun s6 S6 => h D F₃ s6 bs0 ((hle.trans hle2).trans hle3) hD hbl0 hbe0 ?_
  have S7 : St (cx H F0 s0) F₃ env.locals m (lMu a1 a2 a3 a4 a5 a6 a7 v1 v2 v3 (some (.int n t)) (some (.ref D)) v6 v7 ++ bagMu bs0) s6 := S6
  exact S7.perm (List.Perm.cons _ List.perm_append_comm)
end
end Mine
end

section
/-! W4: a dict keyed by tuples of ints. -/
set_option maxRecDepth 100000
set_option maxHeartbeats 4000000
namespace Mine
open PySem PySem.Calls PyProof.Rows PySem.W PySem.Builtin

section
variable {prog : Program} {w : World} {A : Around} {E : Value → Shared → Prop} {F : Fz} {mu : Mu} {s : Shared} {c : Cx}

abbrev TI (prog : Program) (w : World) := tupleKind (intKind prog w)
def ITup (F : Fz) (a : Addr) (k : List Int) : Prop := ∃ vs, STup F (.ref a) vs ∧ IntsAre vs k
theorem ITup.le {F G : Fz} {a : Addr} {k : List Int} (h : ITup F a k) (l : F.Le G) : ITup G a k := let ⟨vs, h1, h2⟩ := h; ⟨vs, stup_le l h1, h2⟩
theorem ints_items : ∀ {vs : List Value} {k : List Int}, IntsAre vs k → PySem.ItemsAre (intKind prog w) k vs
  | _, _, .nil => .nil
  | _, _, .cons n t r => .cons (by show Value.isInt n (.int n t) = true; simp [Value.isInt]) (ints_items r)
theorem ITup.key {F : Fz} {a : Addr} {k : List Int} {h : Heap} (x : ITup F a k) (i : F.In h) : (TI prog w).is h k a := by
  obtain ⟨vs, ⟨a', o, e, ho, hc, n, hd⟩, hi⟩ := x
  cases e
  exact ⟨o, vs.toArray, n, i _ _ ho, hc, hd, ints_items hi⟩

/-- a dict keyed by tuples of ints -/
def dictT (prog : Program) (w : World) (F : Fz) (xs : List (List Int × Addr × Value)) (o : Obj) : Prop :=
  o.ExactDict ∧ (∃ es ep, o.data = .dict es ep ∧ es.toList = xs.map (entryOfKey (TI prog w))) ∧ (∀ x ∈ xs, ITup F x.2.1 x.1) ∧ (xs.map (·.1)).Nodup
theorem dictT.mono {F' : Fz} (l : F.Le F') {xs : List (List Int × Addr × Value)} {o : Obj} (h : dictT prog w F xs o) : dictT prog w F' xs o := ⟨h.1, h.2.1, fun x hx => (h.2.2.1 x hx).le l, h.2.2.2⟩
theorem dictT.is {D : Addr} {xs : List (List Int × Addr × Value)} (S : St0 c F ((D, dictT prog w F xs) :: mu) s) : s.heap.DictOfH (TI prog w) D xs := by
  obtain ⟨o, ho, h1, ⟨es, ep, h2, h3⟩, h4, h5⟩ := S.hd
  exact ⟨o, es, ep, ho, h1, h2, h3, fun x hx => (h4 x hx).key S.inn, h5⟩

theorem newDictS {pos : Pos} {env : Env} {M : Model} {Q : Value → Shared → Prop} (S : St0 c F mu s) (h : ∀ D s', St0 c F ((D, dictT prog w F []) :: mu) s' → Q (.ref D) s') : wpAny M A (eval (.Dict [] [] pos) env) Q E s :=
  wpAny_Dict_empty (h _ _ (S.push _ rfl ⟨⟨rfl, rfl, rfl⟩, ⟨#[], _, rfl, rfl⟩, (fun _ hx => nomatch hx), List.nodup_nil⟩))

theorem dictSetT {D a : Addr} {xs : List (List Int × Addr × Value)} {k : List Int} {v : Value} {Q : Unit → Shared → Prop} (hu : A.units + 1 < cLine) (S : St0 c F ((D, dictT prog w F xs) :: mu) s) (hk : ITup F a k) (hz : xs.length ≤ 1000)
    (h : ∀ s', St0 c F ((D, dictT prog w F (storedH xs k a v)) :: mu) s' → Q () s') : wpAny (model prog w) A (setItem (.ref D) (.ref a) v) Q E s := by
  refine wpAny_setItem_heap (knd := TI prog w) (tupleKind_room_in1 hu) (hk.key S.inn) (dictT.is S) (fun h' hm hs => h _ ?_) (by unfold sizeLine; omega)
  obtain ⟨o, es, ep, ho, h1, h2, h3, h4, h5⟩ := hm
  have hkeys : ∀ x ∈ storedH xs k a v, ITup F x.2.1 x.1 := fun x hx => by
    obtain ⟨o', ho', _, _, hi, _⟩ := S.hd
    unfold storedH at hx
    split at hx
    · obtain ⟨y, hy, rfl⟩ := List.mem_map.mp hx
      unfold putAt
      split <;> exact hi y hy
    · rcases List.mem_append.mp hx with hx | hx
      · exact hi x hx
      · rw [List.mem_singleton.mp hx]; exact hk
  exact S.upd (fun b o hb e => (hs.2 b hb).trans e) ⟨o, ho, h1, ⟨es, ep, h2, h3⟩, hkeys, h5⟩ rfl rfl

theorem dictGetT {D a : Addr} {xs : List (List Int × Addr × Value)} {k : List Int} {p : Addr × Value} {Q : Value → Shared → Prop} (hu : A.units + 1 < cLine) (S : St0 c F ((D, dictT prog w F xs) :: mu) s) (hk : ITup F a k) (hp : atKey xs k = some p)
    (h : ∀ s', St0 c F ((D, dictT prog w F xs) :: mu) s' → Q p.2 s') : wpAny (model prog w) A (getItem (.ref D) (.ref a)) Q E s :=
  wpAny_getItem_heap (knd := TI prog w) (tupleKind_room_in1 hu) (hk.key S.inn) (dictT.is S) hp (h _ (S.tok _))
end
end Mine
end

section
/-! W5: law: told, the two fors: rules. -/
set_option maxRecDepth 100000
set_option maxHeartbeats 4000000
namespace Mine
open PySem PySem.Calls PyProof.Rows PySem.W PySem.Builtin

theorem find_map_putAt {K : Type} [DecidableEq K] (k k' : K) (v : Value) : ∀ xs : List (K × Addr × Value), atKey (xs.map (putAt k v)) k' = if k' = k then (atKey xs k').map (fun p => (p.1, v)) else atKey xs k'
  | [] => by simp [atKey]
  | x :: r => by
    have ih := find_map_putAt k k' v r
    unfold atKey at ih ⊢
    simp only [List.map_cons, List.find?_cons]
    have e : (putAt k v x).1 = x.1 := by unfold putAt; split <;> rfl
    rw [e]
    by_cases h : x.1 = k'
    · subst h
      simp only [decide_true, Option.map_some]
      unfold putAt
      by_cases h2 : x.1 = k
      · simp [h2]
      · simp [h2]
    · simp only [h, decide_false]
      exact ih
theorem atKey_app {K : Type} [DecidableEq K] (k k' : K) (a : Addr) (v : Value) (xs : List (K × Addr × Value)) : atKey (xs ++ [(k, a, v)]) k' = (atKey xs k').or (if k' = k then some (a, v) else none) := by
  unfold atKey
  rw [List.find?_append]
  cases h : xs.find? fun x => decide (x.1 = k') with
  | some y => simp
  | none =>
    by_cases h2 : k' = k
    · subst h2; simp
    · have : ¬ k = k' := fun e => h2 e.symm
      simp [h2, this]
theorem atKey_stored {K : Type} [DecidableEq K] (k k' : K) (a : Addr) (v : Value) (xs : List (K × Addr × Value)) : (k' = k → ∃ b, atKey (storedH xs k a v) k' = some (b, v)) ∧ (k' ≠ k → atKey (storedH xs k a v) k' = atKey xs k') := by
  unfold storedH
  by_cases h : (atKey xs k).isSome
  · rw [if_pos h]
    obtain ⟨p, hp⟩ := Option.isSome_iff_exists.mp h
    constructor
    · intro e; subst e
      rw [find_map_putAt, if_pos rfl, hp]
      exact ⟨p.1, rfl⟩
    · intro e
      rw [find_map_putAt, if_neg e]
  · rw [if_neg h]
    have h0 : atKey xs k = none := by simpa using h
    constructor
    · intro e; subst e
      rw [atKey_app, h0, if_pos rfl]
      exact ⟨a, rfl⟩
    · intro e
      rw [atKey_app, if_neg e]
      cases atKey xs k' <;> rfl
theorem storedH_len {K : Type} [DecidableEq K] (k : K) (a : Addr) (v : Value) (xs : List (K × Addr × Value)) : (storedH xs k a v).length ≤ xs.length + 1 := by
  unfold storedH
  split
  · rw [List.length_map]; omega
  · simp
end Mine
end

section
/-! L0: the plain law: a round of places, folder by folder. -/
namespace Mine

/-- does f lie on the way to r? -/
def pre (f r : List T) : Bool := decide (r.take f.length = f)
theorem pre_iff {f r : List T} : pre f r = true ↔ r.take f.length = f := by unfold pre; simp
theorem pre_len {f r : List T} (h : pre f r = true) : f.length ≤ r.length := by
  have := congrArg List.length (pre_iff.mp h)
  rw [List.length_take] at this; omega
theorem pre_take {r : List T} {m : Nat} (h : m ≤ r.length) : pre (r.take m) r = true := by
  rw [pre_iff, List.length_take, Nat.min_eq_left h]
theorem lcp_max : ∀ (k : Nat) (a b : List T), a.take k = b.take k → k ≤ a.length → k ≤ b.length → k ≤ (lcpL a b).length
  | 0, _, _, _, _, _ => Nat.zero_le _
  | k + 1, [], _, _, h, _ => absurd h (Nat.not_succ_le_zero _)
  | k + 1, _ :: _, [], _, _, h => absurd h (Nat.not_succ_le_zero _)
  | k + 1, x :: a, y :: b, e, h1, h2 => by
    simp only [List.take_succ_cons, List.cons.injEq] at e
    unfold lcpL
    rw [if_pos e.1, List.length_cons]
    exact Nat.succ_le_succ (lcp_max k a b e.2 (Nat.le_of_succ_le_succ h1) (Nat.le_of_succ_le_succ h2))
theorem lcp_takes {a b : List T} {k : Nat} (h : k ≤ (lcpL a b).length) : a.take k = b.take k := by
  have h1 := lcpL_take a b
  have h2 := lcpL_take b a
  rw [lcpL_comm b a] at h2
  have e : a.take (lcpL a b).length = b.take (lcpL a b).length := h1.symm.trans h2
  have := congrArg (List.take k) e
  rwa [List.take_take, List.take_take, Nat.min_eq_left h] at this
theorem pre_both {f a b : List T} (h : pre f a = true) : pre f b = true ↔ f.length ≤ (lcpL a b).length := by
  constructor
  · intro h2
    exact lcp_max _ _ _ ((pre_iff.mp h).trans (pre_iff.mp h2).symm) (pre_len h) (pre_len h2)
  · intro hl
    rw [pre_iff, ← lcp_takes hl]; exact pre_iff.mp h

/-- a way -/
def path (M : Nat → Nat → Int) : Nat → List Nat → Int
  | _, [] => 0
  | a, b :: r => M a b + path M b r
def lastD (a : Nat) (l : List Nat) : Nat := (l.getLast?).getD a
theorem lastD_nil (a : Nat) : lastD a [] = a := rfl
theorem lastD_cons (a b : Nat) (r : List Nat) : lastD a (b :: r) = lastD b r := by
  unfold lastD
  cases r with
  | nil => rfl
  | cons c r => rw [List.getLast?_cons_cons]; cases h : (c :: r).getLast? with
    | none => simp at h
    | some x => rfl
theorem lastD_snoc (a b : Nat) (l : List Nat) : lastD a (l ++ [b]) = b := by unfold lastD; simp
theorem path_app (M : Nat → Nat → Int) : ∀ (l1 : List Nat) (a : Nat) (l2 : List Nat), path M a (l1 ++ l2) = path M a l1 + path M (lastD a l1) l2
  | [], a, l2 => by simp [path, lastD_nil]
  | b :: r, a, l2 => by
    rw [List.cons_append, path, path, path_app M r b l2, lastD_cons]; omega
theorem cost_path (M : Nat → Nat → Int) (home : Nat) : ∀ (p : List Nat) (here : Nat), cost M home here p = path M here (p ++ [home])
  | [], here => by simp [cost, path]
  | k :: p, here => by rw [cost, cost_path M home p k]; rfl
theorem lastD_mem (a : Nat) : ∀ (l : List Nat), lastD a l = a ∨ lastD a l ∈ l
  | [] => .inl rfl
  | b :: r => by
    rw [lastD_cons]
    rcases lastD_mem b r with h | h
    · rw [h]; exact .inr List.mem_cons_self
    · exact .inr (.tail _ h)
theorem lastD_in (a : Nat) {l : List Nat} (h : l ≠ []) : lastD a l ∈ l := by
  cases l with
  | nil => exact absurd rfl h
  | cons b r =>
    rw [lastD_cons]
    rcases lastD_mem b r with h | h
    · rw [h]; exact List.mem_cons_self
    · exact .tail _ h

/-- a change of one mark -/
def chg (b : Nat → Bool) (i j : Nat) : Int := if b i = b j then 0 else 1
theorem chg_nn (b : Nat → Bool) (i j : Nat) : 0 ≤ chg b i j := by unfold chg; split <;> omega
theorem path_nn (b : Nat → Bool) : ∀ (l : List Nat) (a : Nat), 0 ≤ path (chg b) a l
  | [], _ => Int.le_refl _
  | c :: r, a => by have h1 := path_nn b r c; have h2 := chg_nn b a c; rw [path]; omega
theorem path_one (b : Nat → Bool) (z : Nat) : ∀ (l : List Nat) (a : Nat), b a ≠ b z → 1 ≤ path (chg b) a (l ++ [z])
  | [], a, h => by simp [path, chg, h]
  | c :: r, a, h => by
    rw [List.cons_append, path]
    by_cases hc : b a = b c
    · have := path_one b z r c (hc ▸ h)
      have h2 := chg_nn b a c; omega
    · have h1 := path_nn b (r ++ [z]) c
      have : chg b a c = 1 := by unfold chg; rw [if_neg hc]
      omega
theorem path_two (b : Nat → Bool) (h k : Nat) (hk : b k ≠ b h) : ∀ (l : List Nat) (a : Nat), b a = b h → k ∈ l → 2 ≤ path (chg b) a (l ++ [h])
  | [], _, _, hm => nomatch hm
  | c :: r, a, ha, hm => by
    rw [List.cons_append, path]
    by_cases hc : b a = b c
    · have hkr : k ∈ r := by
        rcases List.mem_cons.mp hm with e | e
        · rw [e, ← hc, ha] at hk; exact absurd rfl hk
        · exact e
      have := path_two b h k hk r c (hc ▸ ha) hkr
      have h2 := chg_nn b a c; omega
    · have : chg b a c = 1 := by unfold chg; rw [if_neg hc]
      have := path_one b h r c (by rw [← ha]; exact fun e => hc e.symm)
      omega
theorem path_same (b : Nat → Bool) (v : Bool) : ∀ (l : List Nat) (a : Nat), (∀ x ∈ l, b x = v) → b a = v → path (chg b) a l = 0
  | [], _, _, _ => rfl
  | c :: r, a, h, ha => by
    have hc := h c List.mem_cons_self
    rw [path, path_same b v r c (fun x hx => h x (.tail _ hx)) hc]
    simp [chg, ha, hc]
theorem path_diff (b : Nat → Bool) (v : Bool) {l : List Nat} {a : Nat} (h : ∀ x ∈ l, b x = v) (ha : b a ≠ v) (hl : l ≠ []) : path (chg b) a l = 1 := by
  cases l with
  | nil => exact absurd rfl hl
  | cons c r =>
    have hc := h c List.mem_cons_self
    rw [path, path_same b v r c (fun x hx => h x (.tail _ hx)) hc]
    have : ¬ b a = b c := by rw [hc]; exact ha
    simp [chg, this]
theorem lastD_all (b : Nat → Bool) (v : Bool) {l : List Nat} {a : Nat} (h : ∀ x ∈ l, b x = v) (ha : b a = v) : b (lastD a l) = v := by
  rcases lastD_mem a l with e | e
  · rw [e]; exact ha
  · exact h _ e

theorem blocks (b : Nat → Bool) (le : Nat → Nat → Prop) (hc : ∀ i j k, le i j → le j k → b i = true → b k = true → b j = true) : ∀ (o : List Nat), o.Pairwise le →
    ∃ x y z, o = x ++ (y ++ z) ∧ (∀ i ∈ x, b i = false) ∧ (∀ i ∈ y, b i = true) ∧ ∀ i ∈ z, b i = false
  | [], _ => ⟨[], [], [], rfl, (fun _ h => nomatch h), (fun _ h => nomatch h), fun _ h => nomatch h⟩
  | a :: r, hp => by
    obtain ⟨h1, h2⟩ := List.pairwise_cons.mp hp
    obtain ⟨x, y, z, rfl, hx, hy, hz⟩ := blocks b le hc r h2
    cases ha : b a with
    | false =>
      refine ⟨a :: x, y, z, rfl, fun i hi => ?_, hy, hz⟩
      rcases List.mem_cons.mp hi with rfl | hi
      · exact ha
      · exact hx i hi
    | true =>
      cases y with
      | nil =>
        refine ⟨[], [a], x ++ z, by simp, (fun _ h => nomatch h), fun i hi => ?_, fun i hi => ?_⟩
        · rw [List.mem_singleton.mp hi]; exact ha
        · rcases List.mem_append.mp hi with hi | hi
          · exact hx i hi
          · exact hz i hi
      | cons y0 y =>
        have hxn : x = [] := by
          cases x with
          | nil => rfl
          | cons e x =>
            have h3 : le a e := h1 e (by simp)
            have h4 : le e y0 := by
              rw [List.cons_append, List.pairwise_cons] at h2
              exact h2.1 y0 (by simp)
            have := hc a e y0 h3 h4 ha (hy y0 (by simp))
            rw [hx e (by simp)] at this; cases this
        subst hxn
        refine ⟨[], a :: y0 :: y, z, by simp, (fun _ h => nomatch h), fun i hi => ?_, hz⟩
        rcases List.mem_cons.mp hi with rfl | hi
        · exact ha
        · exact hy i hi
theorem tour_two (b : Nat → Bool) (le : Nat → Nat → Prop) (hc : ∀ i j k, le i j → le j k → b i = true → b k = true → b j = true) {o : List Nat} (hp : o.Pairwise le) {i j : Nat} (hi : i ∈ o) (hbi : b i = true) (hj : j ∈ o) (hbj : b j = false) (d : Nat) :
    path (chg b) (lastD d o) o = 2 := by
  obtain ⟨x, y, z, rfl, hx, hy, hz⟩ := blocks b le hc o hp
  have hyn : y ≠ [] := by
    rintro rfl
    rcases List.mem_append.mp hi with hi | hi
    · rw [hx i hi] at hbi; cases hbi
    · rw [hz i hi] at hbi; cases hbi
  have lastApp : ∀ (a : Nat) (l1 l2 : List Nat), lastD a (l1 ++ l2) = lastD (lastD a l1) l2 := by
    intro a l1
    induction l1 generalizing a with
    | nil => intro l2; rfl
    | cons c r ih => intro l2; rw [List.cons_append, lastD_cons, lastD_cons, ih]
  rw [path_app, path_app]
  by_cases hzn : z = []
  · subst hzn
    have hxn : x ≠ [] := by
      rintro rfl
      rcases List.mem_append.mp hj with hj | hj
      · cases hj
      · rw [List.append_nil] at hj; rw [hy j hj] at hbj; cases hbj
    have hl : b (lastD d (x ++ (y ++ []))) = true := by
      rw [List.append_nil, lastApp]; exact hy _ (lastD_in _ hyn)
    rw [path_diff b false hx (by rw [hl]; simp) hxn]
    rw [path_diff b true hy (by rw [hx _ (lastD_in _ hxn)]; simp) hyn]
    simp [path]
  · have hl : b (lastD d (x ++ (y ++ z))) = false := by
      rw [lastApp, lastApp]; exact hz _ (lastD_in _ hzn)
    rw [path_same b false x _ hx hl]
    rw [path_diff b true hy (by rw [lastD_all b false hx hl]; simp) hyn]
    rw [path_diff b false hz (by rw [hy _ (lastD_in _ hyn)]; simp) hzn]
    omega

theorem lex_convex : ∀ (f a b c : List T), pre f a = true → pre f c = true → lexL b a = false → lexL c b = false → pre f b = true
  | [], _, _, _, _, _, _, _ => by simp [pre]
  | x :: f, a, b, c, ha, hc, h1, h2 => by
    rw [pre_iff, List.length_cons] at ha hc ⊢
    cases a with
    | nil => cases ha
    | cons a0 a =>
      cases c with
      | nil => cases hc
      | cons c0 c =>
        simp only [List.take_succ_cons, List.cons.injEq] at ha hc
        obtain ⟨rfl, ha⟩ := ha
        obtain ⟨rfl, hc⟩ := hc
        cases b with
        | nil => cases h1
        | cons b0 b =>
          unfold lexL at h1 h2
          by_cases e : b0 = c0
          · subst e
            rw [if_pos rfl] at h1 h2
            have := lex_convex f a b c (pre_iff.mpr ha) (pre_iff.mpr hc) h1 h2
            rw [List.take_succ_cons, pre_iff.mp this]
          · rw [if_neg e] at h1
            rw [if_neg fun q => e q.symm] at h2
            exact absurd (T_total (of_decide_eq_false h1) (of_decide_eq_false h2)) e
end Mine
end

section
/-! L1: the plain law: the length of a round. -/
namespace Mine

/-- how long the common head of all rows is -/
structure SharedIs (n : Nat) (R : Nat → List T) (sh : Nat) : Prop where
  take : ∀ i, i < n → (R i).take sh = (R 0).take sh
  len : ∀ i, i < n → sh ≤ (R i).length
  stop : sh = (R 0).length ∨ ∃ i, i < n ∧ (R i)[sh]? ≠ (R 0)[sh]?
/-- the folders on the ways below it -/
structure Folders (n : Nat) (R : Nat → List T) (sh : Nat) (ks : List (List T)) : Prop where
  nd : ks.Nodup
  mem : ∀ k, k ∈ ks ↔ ∃ i m, i < n ∧ sh < m ∧ m ≤ (R i).length ∧ k = (R i).take m

def dist (R : Nat → List T) (i j : Nat) : Int := ((R i).length : Int) + (R j).length - 2 * (lcpL (R i) (R j)).length
def crs (R : Nat → List T) (f : List T) : Nat → Nat → Int := chg fun i => pre f (R i)

section
variable {n : Nat} {R : Nat → List T} {sh : Nat} {ks : List (List T)}

theorem SharedIs.lcp (S : SharedIs n R sh) {i j : Nat} (hi : i < n) (hj : j < n) : sh ≤ (lcpL (R i) (R j)).length :=
  lcp_max _ _ _ ((S.take i hi).trans (S.take j hj).symm) (S.len i hi) (S.len j hj)

theorem Folders.long (Fo : Folders n R sh ks) {f : List T} (h : f ∈ ks) : sh < f.length := by
  obtain ⟨i, m, _, h1, h2, rfl⟩ := (Fo.mem f).mp h
  rw [List.length_take]; omega
theorem Folders.count (Fo : Folders n R sh ks) {i c : Nat} (hi : i < n) (h1 : sh ≤ c) (h2 : c ≤ (R i).length) :
    (ks.filter fun f => pre f (R i) && decide (f.length ≤ c)).length = c - sh := by
  have hp : (ks.filter fun f => pre f (R i) && decide (f.length ≤ c)).Perm ((List.range (c - sh)).map fun t => (R i).take (sh + 1 + t)) := by
    refine (List.perm_ext_iff_of_nodup (Fo.nd.filter _) ?_).mpr fun f => ?_
    · refine List.Pairwise.map _ ?_ (List.nodup_range (n := c - sh) |>.imp_of_mem (S := fun a b => (R i).take (sh + 1 + a) ≠ (R i).take (sh + 1 + b)) fun {a b} ha hb hab e => ?_)
      · exact fun _ _ h => h
      · have := congrArg List.length e
        rw [List.length_take, List.length_take] at this
        have ha := List.mem_range.mp ha
        have hb := List.mem_range.mp hb
        omega
    · rw [List.mem_filter, List.mem_map]
      constructor
      · rintro ⟨hf, hp⟩
        rw [Bool.and_eq_true, decide_eq_true_eq] at hp
        have hl := Fo.long hf
        refine ⟨f.length - (sh + 1), List.mem_range.mpr (by omega), ?_⟩
        rw [show sh + 1 + (f.length - (sh + 1)) = f.length by omega]
        exact pre_iff.mp hp.1
      · rintro ⟨t, ht, rfl⟩
        have ht := List.mem_range.mp ht
        refine ⟨(Fo.mem _).mpr ⟨i, sh + 1 + t, hi, by omega, by omega, rfl⟩, ?_⟩
        rw [Bool.and_eq_true, decide_eq_true_eq]
        refine ⟨pre_take (by omega), ?_⟩
        rw [List.length_take]; omega
  rw [hp.length_eq, List.length_map, List.length_range]

theorem sum_diff {α : Type} (p q : α → Bool) : ∀ l : List α, (l.map fun f => if p f = q f then (0 : Int) else 1).sum = ((l.filter p).length : Int) + (l.filter q).length - 2 * (l.filter fun f => p f && q f).length
  | [] => rfl
  | a :: r => by
    have ih := sum_diff p q r
    rw [List.map_cons, List.sum_cons, ih]
    cases hp : p a <;> cases hq : q a <;> simp [List.filter_cons, hp, hq] <;> omega

theorem dist_sum (S : SharedIs n R sh) (Fo : Folders n R sh ks) {i j : Nat} (hi : i < n) (hj : j < n) : dist R i j = (ks.map fun f => crs R f i j).sum := by
  have h1 := sum_diff (fun f => pre f (R i)) (fun f => pre f (R j)) ks
  have e : (fun f => crs R f i j) = fun f => if pre f (R i) = pre f (R j) then (0 : Int) else 1 := rfl
  rw [e, h1]
  have c1 := Fo.count hi (S.len i hi) (Nat.le_refl _)
  have c2 := Fo.count hj (S.len j hj) (Nat.le_refl _)
  have hl := S.lcp hi hj
  have c3 := Fo.count hi hl (lcpL_le_l (R i) (R j))
  have e1 : (ks.filter fun f => pre f (R i) && decide (f.length ≤ (R i).length)) = ks.filter fun f => pre f (R i) := by
    apply List.filter_congr
    intro f _
    cases h : pre f (R i) with
    | false => rfl
    | true => simp [pre_len h]
  have e2 : (ks.filter fun f => pre f (R j) && decide (f.length ≤ (R j).length)) = ks.filter fun f => pre f (R j) := by
    apply List.filter_congr
    intro f _
    cases h : pre f (R j) with
    | false => rfl
    | true => simp [pre_len h]
  have e3 : (ks.filter fun f => pre f (R i) && decide (f.length ≤ (lcpL (R i) (R j)).length)) = ks.filter fun f => pre f (R i) && pre f (R j) := by
    apply List.filter_congr
    intro f _
    cases h : pre f (R i) with
    | false => rfl
    | true =>
      simp only [Bool.true_and]
      rw [Bool.eq_iff_iff, decide_eq_true_eq]
      exact (pre_both h).symm
  rw [e1] at c1
  rw [e2] at c2
  rw [e3] at c3
  rw [c1, c2, c3]
  have hli := S.len i hi
  have hlj := S.len j hj
  unfold dist
  omega

theorem sum_add {α : Type} (g h : α → Int) : ∀ l : List α, (l.map fun f => g f + h f).sum = (l.map g).sum + (l.map h).sum
  | [] => rfl
  | a :: r => by
    have ih := sum_add g h r
    simp only [List.map_cons, List.sum_cons]
    omega
theorem sum_const {α : Type} (g : α → Int) (c : Int) : ∀ l : List α, (∀ f ∈ l, g f = c) → (l.map g).sum = c * l.length
  | [], _ => by simp
  | a :: r, h => by
    have ih := sum_const g c r fun f hf => h f (.tail _ hf)
    simp only [List.map_cons, List.sum_cons, List.length_cons]
    rw [ih, h a List.mem_cons_self]
    have : c * ((r.length + 1 : Nat) : Int) = c * (r.length : Int) + c := by rw [Int.natCast_add, Int.mul_add]; simp
    omega
theorem sum_le {α : Type} (g : α → Int) (c : Int) : ∀ l : List α, (∀ f ∈ l, c ≤ g f) → c * l.length ≤ (l.map g).sum
  | [], _ => by simp
  | a :: r, h => by
    have ih := sum_le g c r fun f hf => h f (.tail _ hf)
    have h1 := h a List.mem_cons_self
    simp only [List.map_cons, List.sum_cons, List.length_cons]
    have : c * ((r.length + 1 : Nat) : Int) = c * (r.length : Int) + c := by rw [Int.natCast_add, Int.mul_add]; simp
    omega

theorem path_sum (S : SharedIs n R sh) (Fo : Folders n R sh ks) : ∀ (l : List Nat) (a : Nat), a < n → (∀ x ∈ l, x < n) → path (dist R) a l = (ks.map fun f => path (crs R f) a l).sum
  | [], a, _, _ => by
    simp only [path]
    rw [sum_const (fun _ => (0 : Int)) 0 ks fun _ _ => rfl]; simp
  | b :: r, a, ha, hl => by
    have hb := hl b List.mem_cons_self
    simp only [path]
    rw [path_sum S Fo r b hb fun x hx => hl x (.tail _ hx), dist_sum S Fo ha hb, sum_add]

/-- each folder has a place below it, and one that is not -/
theorem Folders.some_in (Fo : Folders n R sh ks) {f : List T} (h : f ∈ ks) : ∃ i, i < n ∧ pre f (R i) = true := by
  obtain ⟨i, m, hi, _, h2, rfl⟩ := (Fo.mem f).mp h
  exact ⟨i, hi, pre_take h2⟩
theorem Folders.some_out (S : SharedIs n R sh) (Fo : Folders n R sh ks) (hn : 0 < n) {f : List T} (h : f ∈ ks) : ∃ i, i < n ∧ pre f (R i) = false := by
  have hl := Fo.long h
  cases h0 : pre f (R 0) with
  | false => exact ⟨0, hn, h0⟩
  | true =>
    rcases S.stop with e | ⟨i, hi, hne⟩
    · have := pre_len h0; omega
    · refine ⟨i, hi, ?_⟩
      cases h1 : pre f (R i) with
      | false => rfl
      | true =>
        exfalso
        apply hne
        have e1 := pre_iff.mp h0
        have e2 := pre_iff.mp h1
        have e3 := congrArg (fun l => l[sh]?) (e2.trans e1.symm)
        simp only [List.getElem?_take, if_pos hl] at e3
        exact e3

def lexLe (R : Nat → List T) (i j : Nat) : Prop := lexL (R j) (R i) = false

/-- a sorted round -/
theorem tour_crs (S : SharedIs n R sh) (Fo : Folders n R sh ks) (hn : 0 < n) {o : List Nat} (ho : ∀ i, i ∈ o ↔ i < n) (hp : o.Pairwise (lexLe R)) (d : Nat) {f : List T} (h : f ∈ ks) : path (crs R f) (lastD d o) o = 2 := by
  obtain ⟨i, hi, bi⟩ := Fo.some_in h
  obtain ⟨j, hj, bj⟩ := Fo.some_out S hn h
  exact tour_two (fun i => pre f (R i)) (lexLe R) (fun i j k h1 h2 h3 h4 => lex_convex f (R i) (R j) (R k) h3 h4 h1 h2) hp ((ho i).mpr hi) bi ((ho j).mpr hj) bj d
theorem tour_len (S : SharedIs n R sh) (Fo : Folders n R sh ks) (hn : 0 < n) {o : List Nat} (ho : ∀ i, i ∈ o ↔ i < n) (hp : o.Pairwise (lexLe R)) (d : Nat) : path (dist R) (lastD d o) o = 2 * ks.length := by
  have hne : o ≠ [] := by
    rintro rfl
    exact absurd ((ho 0).mpr hn) (by simp)
  rw [path_sum S Fo o _ ((ho _).mp (lastD_in d hne)) fun x hx => (ho x).mp hx]
  exact sum_const _ 2 ks fun f hf => tour_crs S Fo hn ho hp d hf

theorem round_low (S : SharedIs n R sh) (Fo : Folders n R sh ks) (hn : 0 < n) {p : List Nat} (hp : ∀ i, i ∈ p ↔ 0 < i ∧ i < n) : 2 * (ks.length : Int) ≤ cost (dist R) 0 0 p := by
  rw [cost_path, path_sum S Fo (p ++ [0]) 0 hn fun x hx => ?_]
  · refine sum_le _ 2 ks fun f hf => ?_
    obtain ⟨i, hi, bi⟩ := Fo.some_in hf
    obtain ⟨j, hj, bj⟩ := Fo.some_out S hn hf
    have key : ∃ k, k ∈ p ∧ pre f (R k) ≠ pre f (R 0) := by
      cases h0 : pre f (R 0) with
      | false =>
        refine ⟨i, (hp i).mpr ⟨?_, hi⟩, by rw [bi]; simp⟩
        rcases Nat.eq_zero_or_pos i with e | e
        · subst e; rw [h0] at bi; cases bi
        · exact e
      | true =>
        refine ⟨j, (hp j).mpr ⟨?_, hj⟩, by rw [bj]; simp⟩
        rcases Nat.eq_zero_or_pos j with e | e
        · subst e; rw [h0] at bj; cases bj
        · exact e
    obtain ⟨k, hk, hne⟩ := key
    exact path_two (fun i => pre f (R i)) 0 k hne p 0 rfl hk
  · rcases List.mem_append.mp hx with hx | hx
    · exact ((hp x).mp hx).2
    · rw [List.mem_singleton.mp hx]; exact hn

theorem lastD_app (a : Nat) (l1 : List Nat) : ∀ (l2 : List Nat), lastD a (l1 ++ l2) = lastD (lastD a l1) l2 := by
  induction l1 generalizing a with
  | nil => intro l2; rfl
  | cons c r ih => intro l2; rw [List.cons_append, lastD_cons, lastD_cons, ih]

/-- the least round -/
theorem round_len (S : SharedIs n R sh) (Fo : Folders n R sh ks) (hn : 0 < n) {o : List Nat} (ho : o.Perm (List.range n)) (hp : o.Pairwise (lexLe R)) {left : List Nat} (hl : left.Perm (List.range' 1 (n - 1))) {r : Int} (h : RoundIs (dist R) 0 0 left r) :
    r = 2 * ks.length := by
  have hmem : ∀ i, i ∈ o ↔ i < n := fun i => by rw [ho.mem_iff, List.mem_range]
  have hleft : ∀ {p : List Nat}, p.Perm left → ∀ i, i ∈ p ↔ 0 < i ∧ i < n := fun hp i => by
    rw [(hp.trans hl).mem_iff, List.mem_range'_1]; omega
  refine Int.le_antisymm ?_ ?_
  · obtain ⟨x, y, rfl⟩ := List.append_of_mem ((hmem 0).mpr hn)
    have hperm : (y ++ x).Perm left := by
      have h1 : (x ++ 0 :: y).Perm (0 :: (y ++ x)) := by
        refine List.perm_middle.trans (List.Perm.cons _ List.perm_append_comm)
      have h2 : (List.range n).Perm (0 :: List.range' 1 (n - 1)) := by
        have e : List.range n = 0 :: List.range' 1 (n - 1) := by
          rw [List.range_eq_range']
          obtain ⟨k, rfl⟩ : ∃ k, n = k + 1 := ⟨n - 1, by omega⟩
          rw [List.range'_succ]; simp
        rw [e]
      have h3 := (h1.symm.trans ho).trans h2
      exact (List.Perm.cons_inv h3).trans hl.symm
    have h1 := h.low _ hperm
    rw [cost_path] at h1
    have h2 := tour_len S Fo hn hmem hp 0
    have e1 : path (dist R) (lastD 0 (x ++ 0 :: y)) (x ++ 0 :: y) = path (dist R) (lastD 0 (x ++ 0 :: y)) (x ++ [0]) + path (dist R) 0 y := by
      have : x ++ 0 :: y = (x ++ [0]) ++ y := by simp
      rw [this, path_app, lastD_snoc]
    have e2 : path (dist R) 0 ((y ++ x) ++ [0]) = path (dist R) 0 y + path (dist R) (lastD 0 y) (x ++ [0]) := by
      rw [List.append_assoc, path_app]
    have e3 : lastD 0 (x ++ 0 :: y) = lastD 0 y := by rw [lastD_app, lastD_cons]
    rw [e3] at e1 h2
    rw [e2] at h1
    rw [e1] at h2
    omega
  · obtain ⟨p, hp', e⟩ := h.is
    rw [e]
    exact round_low S Fo hn (hleft hp')
end
end Mine
end

section
/-! L2: the plain law: what a round passes. -/
namespace Mine

def ups (row : List T) (c : Nat) : List (List T) := (List.range (row.length - c)).map fun t => row.take (row.length - t)
def downs (row : List T) (c : Nat) : List (List T) := (List.range (row.length - c)).map fun t => row.take (c + 1 + t)
def leg (R : Nat → List T) (i j : Nat) : List (List T) := ups (R i) (lcpL (R i) (R j)).length ++ downs (R j) (lcpL (R i) (R j)).length
def legs (R : Nat → List T) : Nat → List Nat → List (List T)
  | _, [] => []
  | a, b :: r => leg R a b ++ legs R b r
theorem legs_snoc (R : Nat → List T) (b : Nat) : ∀ (l : List Nat) (a : Nat), legs R a (l ++ [b]) = legs R a l ++ leg R (lastD a l) b
  | [], a => by simp [legs, lastD_nil]
  | c :: r, a => by rw [List.cons_append, legs, legs, legs_snoc R b r c, lastD_cons, List.append_assoc]

theorem mem_ups {row : List T} {c : Nat} {f : List T} : f ∈ ups row c ↔ pre f row = true ∧ c < f.length := by
  unfold ups
  rw [List.mem_map]
  constructor
  · rintro ⟨t, ht, rfl⟩
    have := List.mem_range.mp ht
    refine ⟨pre_take (by omega), ?_⟩
    rw [List.length_take]; omega
  · rintro ⟨h1, h2⟩
    have := pre_len h1
    refine ⟨row.length - f.length, List.mem_range.mpr (by omega), ?_⟩
    rw [show row.length - (row.length - f.length) = f.length by omega]
    exact pre_iff.mp h1
theorem mem_downs {row : List T} {c : Nat} {f : List T} : f ∈ downs row c ↔ pre f row = true ∧ c < f.length := by
  unfold downs
  rw [List.mem_map]
  constructor
  · rintro ⟨t, ht, rfl⟩
    have := List.mem_range.mp ht
    refine ⟨pre_take (by omega), ?_⟩
    rw [List.length_take]; omega
  · rintro ⟨h1, h2⟩
    have := pre_len h1
    refine ⟨f.length - (c + 1), List.mem_range.mpr (by omega), ?_⟩
    rw [show c + 1 + (f.length - (c + 1)) = f.length by omega]
    exact pre_iff.mp h1
theorem nodup_takes {α : Type} (row : List α) (g : Nat → Nat) : ∀ (k : Nat), (∀ t, t < k → g t ≤ row.length) → (∀ t u, t < k → u < k → g t = g u → t = u) → ((List.range k).map fun t => row.take (g t)).Nodup
  | 0, _, _ => List.nodup_nil
  | k + 1, h1, h2 => by
    rw [List.range_succ, List.map_append, List.nodup_append]
    refine ⟨nodup_takes row g k (fun t ht => h1 t (by omega)) (fun t u ht hu => h2 t u (by omega) (by omega)), by simp, ?_⟩
    intro a ha b hb e
    obtain ⟨t, ht, rfl⟩ := List.mem_map.mp ha
    simp only [List.map_cons, List.map_nil, List.mem_singleton] at hb
    subst hb
    have ht := List.mem_range.mp ht
    have := congrArg List.length e
    rw [List.length_take, List.length_take] at this
    have g1 := h1 t (by omega)
    have g2 := h1 k (by omega)
    have := h2 t k (by omega) (by omega) (by omega)
    omega
theorem nodup_ups (row : List T) (c : Nat) : (ups row c).Nodup := nodup_takes row (fun t => row.length - t) _ (fun t _ => by omega) (fun t u ht hu e => by omega)
theorem nodup_downs (row : List T) (c : Nat) : (downs row c).Nodup := nodup_takes row (fun t => c + 1 + t) _ (fun t ht => by omega) (fun t u ht hu e => by omega)
theorem count_nodup {l : List (List T)} (h : l.Nodup) (f : List T) : l.count f = if f ∈ l then 1 else 0 := by
  by_cases hm : f ∈ l
  · rw [if_pos hm]
    have h1 := List.nodup_iff_count.mp h f
    have h2 := List.count_pos_iff.mpr hm
    omega
  · rw [if_neg hm]; exact List.count_eq_zero.mpr hm

section
variable {n : Nat} {R : Nat → List T} {sh : Nat} {ks : List (List T)}

theorem leg_count (i j : Nat) (f : List T) : ((leg R i j).count f : Int) = crs R f i j := by
  unfold leg
  rw [List.count_append, count_nodup (nodup_ups _ _), count_nodup (nodup_downs _ _)]
  simp only [mem_ups, mem_downs]
  unfold crs chg
  show _ = if pre f (R i) = pre f (R j) then (0 : Int) else 1
  cases h1 : pre f (R i) <;> cases h2 : pre f (R j)
  · simp
  · have h3 : ¬ f.length ≤ (lcpL (R i) (R j)).length := fun h => by
      rw [lcpL_comm] at h
      rw [(pre_both h2).mpr h] at h1; cases h1
    have : (lcpL (R i) (R j)).length < f.length := by omega
    simp [this]
  · have h3 : ¬ f.length ≤ (lcpL (R i) (R j)).length := fun h => by
      rw [(pre_both h1).mpr h] at h2; cases h2
    have : (lcpL (R i) (R j)).length < f.length := by omega
    simp [this]
  · have h3 := (pre_both h1).mp h2
    have : ¬ (lcpL (R i) (R j)).length < f.length := by omega
    simp [this]
theorem legs_count (f : List T) : ∀ (l : List Nat) (a : Nat), ((legs R a l).count f : Int) = path (crs R f) a l
  | [], _ => rfl
  | b :: r, a => by
    rw [legs, path, List.count_append, ← leg_count, ← legs_count f r b]; simp
theorem leg_mem (S : SharedIs n R sh) (Fo : Folders n R sh ks) {i j : Nat} (hi : i < n) (hj : j < n) {f : List T} (h : f ∈ leg R i j) : f ∈ ks := by
  have hl := S.lcp hi hj
  rcases List.mem_append.mp h with h | h
  · obtain ⟨h1, h2⟩ := mem_ups.mp h
    exact (Fo.mem f).mpr ⟨i, f.length, hi, by omega, pre_len h1, (pre_iff.mp h1).symm⟩
  · obtain ⟨h1, h2⟩ := mem_downs.mp h
    exact (Fo.mem f).mpr ⟨j, f.length, hj, by omega, pre_len h1, (pre_iff.mp h1).symm⟩
theorem legs_mem (S : SharedIs n R sh) (Fo : Folders n R sh ks) : ∀ (l : List Nat) (a : Nat), a < n → (∀ x ∈ l, x < n) → ∀ f ∈ legs R a l, f ∈ ks
  | [], _, _, _, f, h => nomatch h
  | b :: r, a, ha, hl, f, h => by
    have hb := hl b List.mem_cons_self
    rcases List.mem_append.mp h with h | h
    · exact leg_mem S Fo ha hb h
    · exact legs_mem S Fo r b hb (fun x hx => hl x (.tail _ hx)) f h
/-- the whole round: each folder twice, nothing else -/
theorem round_passes (S : SharedIs n R sh) (Fo : Folders n R sh ks) (hn : 0 < n) {o : List Nat} (ho : ∀ i, i ∈ o ↔ i < n) (hp : o.Pairwise (lexLe R)) (d : Nat) :
    (∀ f ∈ ks, (legs R (lastD d o) o).count f = 2) ∧ ∀ f ∈ legs R (lastD d o) o, f ∈ ks := by
  have hne : o ≠ [] := by
    rintro rfl
    exact absurd ((ho 0).mpr hn) (by simp)
  constructor
  · intro f hf
    have := tour_crs S Fo hn ho hp d hf
    rw [← legs_count] at this
    omega
  · exact legs_mem S Fo o _ ((ho _).mp (lastD_in d hne)) fun x hx => (ho x).mp hx
end
end Mine
end

section
/-! L3: the plain law: the paths' texts. -/
namespace Mine

def GoodN (l : List T) : Prop := ∀ p ∈ l, Piece p ∧ keepL p = true
theorem GoodN.take {l : List T} (h : GoodN l) (n : Nat) : GoodN (l.take n) := fun p hp => h p (List.mem_of_mem_take hp)
theorem GoodN.drop {l : List T} (h : GoodN l) (n : Nat) : GoodN (l.drop n) := fun p hp => h p (List.mem_of_mem_drop hp)
theorem keepL_iff {p : T} : keepL p = true ↔ p ≠ [] ∧ p ≠ [46] := by unfold keepL; simp
theorem GoodN.ne {l : List T} (h : GoodN l) {p : T} (hp : p ∈ l) : p ≠ [] := (keepL_iff.mp (h p hp).2).1
theorem GoodN.free {l : List T} (h : GoodN l) {p : T} (hp : p ∈ l) : 47 ∉ p := (h p hp).1.free
theorem GoodN.lcp {a b : List T} (h : GoodN a) : GoodN (lcpL a b) := by rw [lcpL_take]; exact h.take _

theorem split_slash (l : T) : splitL (47 :: l) = [] :: splitL l := by rw [splitL, if_pos rfl]
theorem joinL_snoc (p : T) : ∀ {l : List T}, l ≠ [] → joinL (l ++ [p]) = joinL l ++ 47 :: p
  | [], h => absurd rfl h
  | [q], _ => rfl
  | q :: r :: l, _ => by
    have ih := joinL_snoc p (l := r :: l) (by simp)
    show q ++ 47 :: joinL ((r :: l) ++ [p]) = (q ++ 47 :: joinL (r :: l)) ++ 47 :: p
    rw [ih]; simp
theorem filter_ne {l : List T} (h : ∀ p ∈ l, p ≠ []) : l.filter (fun c => decide (c ≠ [])) = l := List.filter_eq_self.mpr fun p hp => by simpa using h p hp

/-- the names of a plain path -/
theorem plain_split {r : Bool} {l : List T} (h : GoodN l) : (splitL (plainT r l)).filter (fun c => decide (c ≠ [])) = l := by
  have key : (splitL (joinL l)).filter (fun c => decide (c ≠ [])) = l := by
    by_cases hl : l = []
    · subst hl; rfl
    · rw [split_of_join l hl fun p hp => h.free hp]
      exact filter_ne fun p hp => h.ne hp
  unfold plainT headP
  cases r with
  | true =>
    rw [if_pos rfl, List.cons_append, List.nil_append, split_slash, List.filter_cons_of_neg (by simp)]
    exact key
  | false =>
    rw [if_neg Bool.false_ne_true, List.nil_append]
    exact key
theorem plain_inj {r : Bool} {l l' : List T} (h : GoodN l) (h' : GoodN l') (e : plainT r l = plainT r l') : l = l' := by
  have := congrArg (fun x => (splitL x).filter (fun c => decide (c ≠ []))) e
  simp only [plain_split h, plain_split h'] at this
  exact this

theorem last_of {p : T} (h : p ≠ []) (hf : 47 ∉ p) : ∃ b c, p = b ++ [c] ∧ c ≠ 47 := by
  rcases List.eq_nil_or_concat p with e | ⟨b, c, rfl⟩
  · exact absurd e h
  · refine ⟨b, c, List.concat_eq_append ▸ rfl, fun e => hf ?_⟩
    subst e; simp
theorem join_last {l : List T} (h : GoodN l) (hl : l ≠ []) : ∃ b c, joinL l = b ++ [c] ∧ c ≠ 47 := by
  rcases List.eq_nil_or_concat l with e | ⟨q, p, rfl⟩
  · exact absurd e hl
  · rw [List.concat_eq_append] at h ⊢
    obtain ⟨b, c, hb, hc⟩ := last_of (h.ne (p := p) (by simp)) (h.free (by simp))
    by_cases hq : q = []
    · subst hq
      exact ⟨b, c, hb, hc⟩
    · rw [joinL_snoc p hq]
      exact ⟨joinL q ++ 47 :: b, c, by rw [hb]; simp, hc⟩
theorem dropW_free {p x : T} (h : 47 ∉ p) : (p ++ x).dropWhile (· != 47) = x.dropWhile (· != 47) := by
  induction p with
  | nil => rfl
  | cons c p ih =>
    have hc : (c != 47) = true := by
      refine bne_iff_ne.mpr fun e => h ?_
      subst e; simp
    rw [List.cons_append, List.dropWhile_cons_of_pos (p := (· != 47)) hc]
    exact ih fun hm => h (.tail _ hm)
theorem upTo_slash (a p : T) (h : 47 ∉ p) : upTo (a ++ 47 :: p) = a ++ [47] := by
  unfold upTo
  rw [List.reverse_append, List.reverse_cons, List.append_assoc, dropW_free (by simpa using h)]
  simp
theorem upTo_free (p : T) (h : 47 ∉ p) : upTo p = [] := by
  unfold upTo
  have := dropW_free (p := p.reverse) (x := []) (by simpa using h)
  rw [List.append_nil] at this
  rw [this]; rfl
theorem rstrip_slash (b : T) (c : Nat) (hc : c ≠ 47) : rstripL ((b ++ [c]) ++ [47]) = b ++ [c] := by
  unfold rstripL
  have h1 : (c == 47) = false := beq_eq_false_iff_ne.mpr hc
  simp [h1]

theorem plain_nil (r : Bool) : plainT r [] = headP r := by unfold plainT; simp [joinL]
theorem plain_one (r : Bool) (p : T) : plainT r [p] = headP r ++ p := rfl
theorem plain_snoc (r : Bool) (p : T) {l : List T} (h : l ≠ []) : plainT r (l ++ [p]) = plainT r l ++ 47 :: p := by
  unfold plainT; rw [joinL_snoc p h, List.append_assoc]
theorem plain_last {r : Bool} {l : List T} (h : GoodN l) (hl : l ≠ []) : ∃ b c, plainT r l = b ++ [c] ∧ c ≠ 47 := by
  obtain ⟨b, c, hb, hc⟩ := join_last h hl
  exact ⟨headP r ++ b, c, by unfold plainT; rw [hb, List.append_assoc], hc⟩

theorem upTo_plain {r : Bool} {l : List T} {p : T} (h : GoodN (l ++ [p])) : upTo (plainT r (l ++ [p])) = if l = [] then headP r else plainT r l ++ [47] := by
  have hf : 47 ∉ p := h.free (by simp)
  by_cases hl : l = []
  · subst hl
    rw [if_pos rfl, List.nil_append, plain_one]
    cases r with
    | true =>
      have := upTo_slash [] p hf
      simpa [headP] using this
    | false =>
      have := upTo_free p hf
      simpa [headP] using this
  · rw [if_neg hl, plain_snoc r p hl, upTo_slash _ _ hf]
theorem dir_plain {r : Bool} {l : List T} {p : T} (h : GoodN (l ++ [p])) : dirL (plainT r (l ++ [p])) = plainT r l := by
  have hl' : GoodN l := fun q hq => h q (List.mem_append_left _ hq)
  unfold dirL
  rw [upTo_plain h]
  by_cases hl : l = []
  · subst hl
    rw [if_pos rfl, plain_nil]
    cases r with
    | true => rw [if_neg (by simp [headP])]
    | false => rw [if_neg (by simp [headP])]
  · rw [if_neg hl]
    obtain ⟨b, c, hb, hc⟩ := plain_last (r := r) hl' hl
    rw [hb, if_pos, rstrip_slash b c hc]
    refine ⟨by simp, fun e => hc ?_⟩
    have : c ∈ List.replicate (b ++ [c] ++ [47]).length 47 := by rw [← e]; simp
    exact List.eq_of_mem_replicate this
theorem upTo_lt {r : Bool} {l : List T} {p : T} (h : GoodN (l ++ [p])) : (upTo (plainT r (l ++ [p]))).length < (plainT r (l ++ [p])).length := by
  have hp : p ≠ [] := h.ne (by simp)
  have : 0 < p.length := by cases p with | nil => exact absurd rfl hp | cons _ _ => simp
  rw [upTo_plain h]
  by_cases hl : l = []
  · subst hl
    rw [if_pos rfl, List.nil_append, plain_one, List.length_append]; omega
  · rw [if_neg hl, plain_snoc r p hl, List.length_append, List.length_append, List.length_cons]; simp; omega
theorem starts_free {p : T} (h : 47 ∉ p) : startsL p = false := by
  unfold startsL
  cases p with
  | nil => rfl
  | cons c p =>
    have : c ≠ 47 := fun e => h (by subst e; simp)
    simp [this]
theorem ends_of {b : T} {c : Nat} (hc : c ≠ 47) : endsL (b ++ [c]) = false := by unfold endsL; simp [hc]
theorem join_plain {r : Bool} {l : List T} {p : T} (h : GoodN (l ++ [p])) : joinP (plainT r l) p = plainT r (l ++ [p]) := by
  have hl' : GoodN l := fun q hq => h q (List.mem_append_left _ hq)
  have hf : 47 ∉ p := h.free (by simp)
  unfold joinP
  rw [starts_free hf]
  by_cases hl : l = []
  · subst hl
    rw [plain_nil, List.nil_append, plain_one]
    cases r with
    | true => simp [headP, endsL]
    | false => simp [headP]
  · obtain ⟨b, c, hb, hc⟩ := plain_last (r := r) hl' hl
    rw [plain_snoc r p hl, hb, if_neg (by simp), ends_of hc, if_neg Bool.false_ne_true]
    simp

theorem starts_crook (r : Bool) (ps : List T) : startsL (crookT r ps) = r := by
  unfold crookT headC startsL
  cases r <;> simp
theorem names_crook (r : Bool) {ps : List T} (h : ∀ p ∈ ps, Piece p) : namesL (crookT r ps) = keepR ps := by
  have key : (splitL (joinL ps)).filter keepL = keepR ps := by
    by_cases hl : ps = []
    · subst hl; rfl
    · rw [split_of_join ps hl fun p hp => (h p hp).free]; rfl
  unfold namesL crookT headC
  cases r with
  | true =>
    rw [if_pos rfl, List.cons_append, List.nil_append, split_slash, List.filter_cons_of_neg (by simp [keepL])]
    exact key
  | false =>
    rw [if_neg Bool.false_ne_true]
    have : splitL ([46, 47] ++ joinL ps) = [46] :: splitL (joinL ps) := split_cat [46] (by simp) (joinL ps)
    rw [this, List.filter_cons_of_neg (by simp [keepL])]
    exact key
theorem com_crook (r : Bool) {ps qs : List T} (h : ∀ p ∈ ps, Piece p) (h' : ∀ p ∈ qs, Piece p) : comL (crookT r ps) (crookT r qs) = plainT r (lcpL (keepR ps) (keepR qs)) := by
  unfold comL
  rw [starts_crook, names_crook r h, names_crook r h']
  rfl
theorem keepR_good {ps : List T} (h : ∀ p ∈ ps, Piece p) : GoodN (keepR ps) := fun p hp => ⟨h p (List.mem_filter.mp hp).1, (List.mem_filter.mp hp).2⟩
theorem headP_byt (r : Bool) : Byt (headP r) := by
  unfold headP
  cases r with
  | true => intro c hc; simp at hc; omega
  | false => intro c hc; simp at hc
theorem headC_byt (r : Bool) : Byt (headC r) := by
  unfold headC
  cases r with
  | true => intro c hc; simp at hc; omega
  | false => intro c hc; simp at hc; omega
theorem plain_byt (r : Bool) {l : List T} (h : GoodN l) : Byt (plainT r l) := (headP_byt r).append (Byt.join fun p hp => (h p hp).1.byt)
theorem crook_byt (r : Bool) {l : List T} (h : ∀ p ∈ l, Piece p) : Byt (crookT r l) := (headC_byt r).append (Byt.join fun p hp => (h p hp).byt)
theorem plain_len (r : Bool) {l : List T} (h : GoodN l) (h6 : l.length ≤ 6) : (plainT r l).length ≤ 20 := by
  have h1 := joinP_len h6 fun p hp => (h p hp).1
  have h2 : (headP r).length ≤ 1 := by unfold headP; cases r <;> simp
  unfold plainT
  rw [List.length_append]; omega
theorem crook_len (r : Bool) {l : List T} (h : ∀ p ∈ l, Piece p) (h6 : l.length ≤ 6) : (crookT r l).length ≤ 20 := by
  have h1 := joinP_len h6 h
  have h2 : (headC r).length ≤ 2 := by unfold headC; cases r <;> simp
  unfold crookT
  rw [List.length_append]; omega
end Mine
end

section
/-! W6: law: rules for told and steps. -/
set_option maxRecDepth 100000
set_option maxHeartbeats 4000000
namespace Mine
open PySem PySem.Calls PyProof.Rows PySem.W PySem.Builtin

section
variable {prog : Program} {w : World} {A : Around} {E : Value → Shared → Prop} {F : Fz} {m mg mb : PySem.Str → Option Value} {mu : Mu} {s : Shared} {c : Cx} {env : Env}

/-- l[k] = v, an open list -/
theorem setItemK {a : Addr} {o : Obj} {items : Array Value} {n : Nat} {k : Int} {t : Tok} {v : Value} {Q : Unit → Shared → Prop} (ho : s.heap.get? a = some o) (hc : o.cls = .type "list") (hd : o.data = .seq items n) (h0 : 0 ≤ k) (hfit : k < 2 ^ 63) (hn : k < items.size)
    (h : Q () { s with heap := s.heap.update a (Obj.mapSeq (·.setIfInBounds k.toNat v)) }) : wpAny (model prog w) A (setItem (.ref a) (.int k t) v) Q E s := by
  have hT : s.TypeIs (.ref a) "list" := ⟨o, ho, hc⟩
  unfold setItem
  try with_reducible refine wpAny_holding ?_
  first | refine wpAny_bind (wpAny_pure ?_) | skip
  refine wpAny_bind (wpAny_sequenceKey hT (by decide) ?_)
  refine wpAny_bind (wpAny_callSpecial?_slot (name := Str.ofString "__setitem__") hT slot_list_setitem (wpAny_call_entry slot_list_setitem hT entry_list_setitem ?_ (args_list_setitem _ _ _)))
  show wpAny _ _ (Builtin.List.listSubscript? (.int k t) >>= _) _ _ s
  refine wpAny_bind (wpAny_listSubscript_int (fitsIndex_of h0 hfit) ?_)
  clear hfit
  obtain ⟨j, rfl⟩ := Int.eq_ofNat_of_zero_le h0
  have hj : j < items.size := by omega
  have hx : items[j]? = some items[j] := Array.getElem?_eq_getElem hj
  show wpAny _ _ ((seqItemAt a j >>= fun r => pure (r.map (j, ·))) >>= _) _ _ s
  refine wpAny_bind (wpAny_bind (wpAny_seqItemAt ho hd (wpAny_pure ?_)))
  rw [hx]
  show wpAny _ _ (setSeqItemAt a j v >>= _) _ _ s
  refine wpAny_bind (wpAny_setSeqItemAt ho hd ?_)
  first
    | exact wpAny_bind (wpAny_pure (wpAny_pure ⟨.none, rfl, wpAny_pure h⟩))
    | exact wpAny_pure ⟨.none, rfl, wpAny_pure h⟩
theorem setItemL {a : Addr} {vs : List Value} {j : Nat} {t : Tok} {v : Value} {Q : Unit → Shared → Prop} (S : St0 c F ((a, lst vs) :: mu) s) (hj : j < vs.length) (hz : vs.length ≤ 1000)
    (h : ∀ s', St0 c F ((a, lst (vs.set j v)) :: mu) s' → Q () s') : wpAny (model prog w) A (setItem (.ref a) (.int j t) v) Q E s := by
  obtain ⟨o, ho, hlo⟩ := S.hd
  obtain ⟨hc, hdi, n, hd⟩ := id hlo
  have S' := setS S (·.setIfInBounds j v) ho hlo
  rw [Array.toList_setIfInBounds] at S'
  have h1 : (j : Int) < 2 ^ 63 := by omega
  refine setItemK ho hc hd (Int.natCast_nonneg j) h1 (by rw [List.size_toArray]; omega) ?_
  rw [Int.toNat_natCast]
  exact h _ S'

/-- the scope of [c for c in ..] -/
def cScope : Scope := { kind := .function, names := [(PySem.Str.ofString ".0", .local), (PySem.Str.ofString "c", .local)], isGenerator := false, isCoroutine := false, more := [] }

/-- len([c for c in common.split(slash) if c]) -/
theorem cntE {p1 p2 p3 p4 p5 p6 p7 p8 p9 p10 : Pos} {l : T} {oct : Bool} {tc ts : Tok} {Q : Value → Shared → Prop} (B : Bs c.base mg mb) (G : Gl mg) (he : EnvOk env (fScope lawSt)) (hh : A.handled = none) (S : St c F env.locals m mu s)
    (hcm : m "common" = some (tx oct l tc)) (hsl : m "slash" = some (tx oct [47] ts)) (hb : Byt l) (hz : l.length ≤ 1000)
    (h : ∀ F' s' t, F.Le F' → St c F' env.locals m mu s' → Q (.int ((splitL l).filter (fun c => decide (c ≠ []))).length t) s') {pl : Sem Bool}
    (hev : eval (.Call (.Attribute (.Name "common" p4) "split" p5) [.Name "slash" p6] [] p7) env = (do
      let ov ← eval (.Name "common" p4) env
      standAt p5.atName
      let (f, first) ← holding [ov] (getMethod ov "split" pl)
      callWith p7 f first (backTo p7 (starEach [.Name "slash" p6] env)) []) := by rfl) :
    wpAny (model prog w) A (eval (.Call (.Name "len" p1) [.ListComp (.Name "c" p2) [⟨.Name "c" p3, .Call (.Attribute (.Name "common" p4) "split" p5) [.Name "slash" p6] [] p7, [.Name "c" p8], 0⟩] cScope p9] [] p10) env) Q E s := by
  refine cB1 (fun _ h => ldB S B G he h) ?_
  have hsplen : (splitL l).length ≤ 1001 := Nat.le_trans (splitL_length l) (by omega)
  refine lcomp (cl := []) hh he (by rfl) (by rfl) (fun i F ys => TxL oct (((splitL l).take i).filter (fun c => decide (c ≠ []))) ys) (fun _ _ _ _ l h => h) ?_
  refine mcall1 mf_split (ld' S he hcm ⟨l, tc, rfl, ld' S he hsl (splitT S hb (by omega) fun D s' vs S' hv => ?_)⟩) hev
  obtain ⟨F', hle, S'', hD⟩ := freeze2 S'
  have hvl : vs.length = (splitL l).length := hv.length.symm
  refine ⟨c, F', _, vs.length, _, S'', itList hh hD, by omega, .nil, ?_, ?_⟩
  · intro cenv i v I K D2 m2 F2 ys s2 heC hcC hi hvi hle2 hJ hys S2
    refine wpAny_assign_Name (st' S2 heC fun s3 S3 => wpAny_tests_one ?_)
    obtain ⟨p, t, hp, hvp⟩ := hv.get i (by omega)
    rw [hvi] at hvp; cases hvp
    have hpl : p.length ≤ 1000 := Nat.le_trans (splitL_len (List.mem_of_getElem? hp)) hz
    refine wpAny_isTrue_value (ld' S3 heC rfl (truthT S3 (by omega) fun s4 S4 => ?_))
    rw [take_snoc hp, List.filter_append]
    by_cases hpn : p = []
    · rw [decide_eq_false (by simpa using hpn), if_neg Bool.false_ne_true]
      refine ⟨_, F2, .refl _, S4, ?_⟩
      rw [List.filter_cons_of_neg (by simpa using hpn)]
      simpa using hJ
    · rw [decide_eq_true (by simpa using hpn), if_pos rfl]
      refine ld' S4 heC rfl ⟨_, F2, .refl _, S4, ?_⟩
      rw [List.filter_cons_of_pos (by simpa using hpn)]
      exact hJ.snoc ⟨t, rfl⟩
  · intro D2 F2 ys s2 hle2 S2 hD2 hJ hlen
    have e : ys.length = ((splitL l).filter (fun c => decide (c ≠ []))).length := by
      rw [List.take_of_length_le (by omega)] at hJ
      exact hJ.length.symm
    refine lenS S2 hD2 (by omega) fun s3 t S3 => ?_
    rw [e]
    exact h F2 s3 t (hle.trans hle2) S3

theorem neBB {a b : Bool} {Q : Value → Shared → Prop} (h : Q (.bool (!(a == b))) s) : wpAny (model prog w) A (compareOp .NotEq (.bool a) (.bool b)) Q E s :=
  SeqAt.RcNeAt.bool_bool a b prog w E Q h

theorem TxL.at {oct : Bool} {ps : List T} {vs : List Value} (h : TxL oct ps vs) {i : Nat} {p : T} (hp : ps[i]? = some p) : ∃ t, vs[i]? = some (tx oct p t) := by
  have hi := (List.getElem?_eq_some_iff.mp hp).1
  obtain ⟨q, t, h1, h2⟩ := h.get i hi
  rw [hp] at h1; cases h1
  exact ⟨t, h2⟩
end

def forBody : Stmt → List Stmt
  | .For _ _ b .. => b
  | _ => []
end Mine
end

section
/-! W7: law: told = {}, the two fors. -/
set_option maxRecDepth 100000
set_option maxHeartbeats 4000000
namespace Mine
open PySem PySem.Calls PyProof.Rows PySem.W PySem.Builtin

/-- what told tells -/
def ToldIs (oct r : Bool) (R : Nat → List T) (done : Nat → Nat → Prop) (xs : List (List Int × Addr × Value)) : Prop :=
  ∀ a b : Nat, done a b → ∃ p t, atKey xs [(a : Int), (b : Int)] = some (p, tx oct (plainT r (lcpL (R a) (R b))) t)
def BagsIs (R : Nat → List T) (n : Nat) (done : Nat → Nat → Prop) (bs : Bags) : Prop :=
  bs.length = n ∧ ∀ a ad ws, bs[a]? = some (ad, ws) → ws.length = n ∧ ∀ b, b < n → done a b → ∃ t, ws[b]? = some (.int (dist R a b) t)
def also (done : Nat → Nat → Prop) (i j : Nat) (a b : Nat) : Prop := done a b ∨ (a = i ∧ b = j)
theorem ToldIs.imp {oct r : Bool} {R : Nat → List T} {d d' : Nat → Nat → Prop} {xs : List (List Int × Addr × Value)} (h : ToldIs oct r R d xs) (hd : ∀ a b, d' a b → d a b) : ToldIs oct r R d' xs := fun a b x => h a b (hd a b x)
theorem BagsIs.imp {R : Nat → List T} {n : Nat} {d d' : Nat → Nat → Prop} {bs : Bags} (h : BagsIs R n d bs) (hd : ∀ a b, d' a b → d a b) : BagsIs R n d' bs :=
  ⟨h.1, fun a ad ws hb => ⟨(h.2 a ad ws hb).1, fun b hbn x => (h.2 a ad ws hb).2 b hbn (hd a b x)⟩⟩
theorem ToldIs.step {oct r : Bool} {R : Nat → List T} {d : Nat → Nat → Prop} {xs : List (List Int × Addr × Value)} (h : ToldIs oct r R d xs) (i j : Nat) (ad : Addr) (t : Tok) :
    ToldIs oct r R (also d i j) (storedH xs [(i : Int), (j : Int)] ad (tx oct (plainT r (lcpL (R i) (R j))) t)) := by
  intro a b hx
  obtain ⟨k1, k2⟩ := atKey_stored [(i : Int), (j : Int)] [(a : Int), (b : Int)] ad (tx oct (plainT r (lcpL (R i) (R j))) t) xs
  by_cases he : a = i ∧ b = j
  · obtain ⟨rfl, rfl⟩ := he
    obtain ⟨p, hp⟩ := k1 rfl
    exact ⟨p, t, hp⟩
  · have hd : d a b := by
      rcases hx with hx | hx
      · exact hx
      · exact absurd hx he
    rw [k2 fun e => he ?_]
    · exact h a b hd
    · simp only [List.cons.injEq, and_true] at e
      exact ⟨Int.ofNat_inj.mp e.1, Int.ofNat_inj.mp e.2⟩
theorem BagsIs.step {R : Nat → List T} {n : Nat} {d : Nat → Nat → Prop} {bs : Bags} (h : BagsIs R n d bs) {i j : Nat} {ad : Addr} {ws : List Value} (hi : bs[i]? = some (ad, ws)) (hj : j < n) (t : Tok) :
    BagsIs R n (also d i j) (bs.set i (ad, ws.set j (.int (dist R i j) t))) := by
  have hil := (List.getElem?_eq_some_iff.mp hi).1
  refine ⟨by rw [List.length_set]; exact h.1, fun a ad' ws' ha => ?_⟩
  obtain ⟨w1, w2⟩ := h.2 i ad ws hi
  by_cases hai : a = i
  · subst hai
    rw [List.getElem?_set_self hil] at ha
    cases ha
    refine ⟨by rw [List.length_set]; exact w1, fun b hb hx => ?_⟩
    by_cases hbj : b = j
    · subst hbj
      exact ⟨t, List.getElem?_set_self (by omega)⟩
    · rw [List.getElem?_set_ne (Ne.symm hbj)]
      refine w2 b hb ?_
      rcases hx with hx | hx
      · exact hx
      · exact absurd hx.2 hbj
  · rw [List.getElem?_set_ne (Ne.symm hai)] at ha
    obtain ⟨u1, u2⟩ := h.2 a ad' ws' ha
    refine ⟨u1, fun b hb hx => u2 b hb ?_⟩
    rcases hx with hx | hx
    · exact hx
    · exact absurd hx.1 hai

/-- the law's things that stand still -/
structure LawX (F : Fz) (oct r : Bool) (pss : List (List T)) (rows : List (List T)) (Rw C P : Addr) : Prop where
  eq : rows = pss.map keepR
  rowsF : Rows F (.ref Rw) rows
  piece : ∀ ps ∈ pss, ∀ p ∈ ps, Piece p
  short : ∀ ps ∈ pss, ps.length ≤ 6
  crooked : ∃ ys, SList F (.ref C) ys ∧ TxL oct (pss.map (crookT r)) ys
  plain : ∃ ys, SList F (.ref P) ys ∧ TxL oct (rows.map (plainT r)) ys
theorem LawX.le {F F' : Fz} {oct r : Bool} {pss rows : List (List T)} {Rw C P : Addr} (X : LawX F oct r pss rows Rw C P) (l : F.Le F') : LawX F' oct r pss rows Rw C P := by
  obtain ⟨ys, h1, h2⟩ := X.crooked
  obtain ⟨zs, h3, h4⟩ := X.plain
  exact ⟨X.eq, X.rowsF.le l, X.piece, X.short, ⟨ys, h1.le l, h2⟩, ⟨zs, h3.le l, h4⟩⟩
def rowAt (rows : List (List T)) (i : Nat) : List T := rows.getD i []
theorem rowAt_get {rows : List (List T)} {i : Nat} (h : i < rows.length) : rows[i]? = some (rowAt rows i) := by
  unfold rowAt; rw [List.getD_eq_getElem?_getD, List.getElem?_eq_getElem h]; rfl
theorem rowAt_mem {rows : List (List T)} {i : Nat} (h : i < rows.length) : rowAt rows i ∈ rows := List.mem_of_getElem? (rowAt_get h)
section
variable {F : Fz} {oct r : Bool} {pss rows : List (List T)} {Rw C P : Addr}
theorem LawX.good (X : LawX F oct r pss rows Rw C P) {i : Nat} (h : i < rows.length) : GoodN (rowAt rows i) := fun p hp => ⟨X.rowsF.piece _ (rowAt_mem h) p hp, X.rowsF.keep _ (rowAt_mem h) p hp⟩
theorem LawX.six (X : LawX F oct r pss rows Rw C P) {i : Nat} (h : i < rows.length) : (rowAt rows i).length ≤ 6 := X.rowsF.short _ (rowAt_mem h)
theorem LawX.crook (X : LawX F oct r pss rows Rw C P) {i : Nat} (h : i < rows.length) : ∃ ps, ps ∈ pss ∧ keepR ps = rowAt rows i ∧ ∀ ys, TxL oct (pss.map (crookT r)) ys → ∃ t, ys[i]? = some (tx oct (crookT r ps) t) := by
  have hl : rows.length = pss.length := by rw [X.eq, List.length_map]
  have hi : i < pss.length := by omega
  refine ⟨pss[i], List.getElem_mem hi, ?_, fun ys hy => ?_⟩
  · have := rowAt_get h
    rw [X.eq, List.getElem?_map, List.getElem?_eq_getElem hi] at this
    simp only [Option.map_some, Option.some.injEq] at this
    rw [X.eq]; exact this
  · exact hy.at (by rw [List.getElem?_map, List.getElem?_eq_getElem hi]; rfl)
theorem LawX.row (X : LawX F oct r pss rows Rw C P) {i : Nat} (h : i < rows.length) : ∃ vs v ws, SList F (.ref Rw) vs ∧ vs[i]? = some v ∧ SList F v ws ∧ TxL false (rowAt rows i) ws := by
  obtain ⟨vs, h1, h2⟩ := X.rowsF.is
  obtain ⟨ps, v, h3, h4, ws, h5, h6⟩ := Paired.get h2 i h
  rw [rowAt_get h] at h3; cases h3
  exact ⟨vs, v, ws, h1, h4, h5, h6⟩
end
/-- the law's locals -/
structure LM (m : PySem.Str → Option Value) (oct : Bool) (C P Td : Addr) : Prop where
  crooked : m "crooked" = some (.ref C)
  plain : m "plain" = some (.ref P)
  told : m "told" = some (.ref Td)
  slash : ∃ t, m "slash" = some (tx oct [47] t)

def body11 : List Stmt := forBody ((forBody (lawI 11)).getD 0 default)

section
variable {prog : Program} {w : World} {A : Around} {E : Value → Shared → Prop} {H : Heap} {mg mb : PySem.Str → Option Value} {F : Fz} {m : PySem.Str → Option Value} {mu : Mu} {s s0 : Shared} {env : Env} {a1 a2 a3 a4 a5 a6 a7 : Addr} {F0 : Fz} {Q : Flow → Shared → Prop}

theorem law10 (he : EnvOk env (fScope lawSt)) (S : St (cx H F0 s0) F env.locals m mu s)
    (h : ∀ Td s', St (cx H F0 s0) F env.locals (upd m "told" (.ref Td)) ((Td, dictT prog w F []) :: mu) s' → Q .next s') :
    wpAny (model prog w) A (exec (lawI 10) env) Q E s := by
  refine wpAny_Assign_Name (newDictS (prog := prog) (w := w) S fun D s2 S2 => ?_)
  exact st' S2.swap he fun s3 S3 => h D s3 S3

theorem turn11 {f16 f9 : Addr} {d16 d9 : FuncData} (B : Bs H mg mb) (G : Gl mg) (X16 : FnAt H mg "commonpath" (nth 16) f16 d16) (X9 : FnAt H mg "fspath" (nth 9) f9 d9) (he : EnvOk env (fScope lawSt)) (hr : Rm A 30) (hc : LCells env a1 a2 a3 a4 a5 a6 a7)
    {oct r : Bool} {pss rows : List (List T)} {Rw C P Td D : Addr} {xs : List (List Int × Addr × Value)} {bs : Bags} {tl : Mu} {v4 v6 v7 : Option Value} {i j : Nat} {ti tj : Tok} {d : Nat → Nat → Prop}
    (S : St (cx H F0 s0) F env.locals m ((Td, dictT prog w F xs) :: (bagMu bs ++ (lMu a1 a2 a3 a4 a5 a6 a7 (some (.bool r)) (some (.bool oct)) (some (.ref Rw)) v4 (some (.ref D)) v6 v7 ++ tl))) s)
    (X : LawX F oct r pss rows Rw C P) (L : LM m oct C P Td) (hD : SList F (.ref D) (bagVals bs)) (hmi : m "i" = some (.int i ti)) (hmj : m "j" = some (.int j tj)) (hi : i < rows.length) (hj : j < rows.length) (hx : xs.length ≤ 900)
    (ht : ToldIs oct r (rowAt rows) d xs) (hb : BagsIs (rowAt rows) rows.length d bs)
    (h : ∀ F' s' v xs' bs', F.Le F' → St (cx H F0 s0) F' env.locals (upd m "common" v) ((Td, dictT prog w F' xs') :: (bagMu bs' ++ (lMu a1 a2 a3 a4 a5 a6 a7 (some (.bool r)) (some (.bool oct)) (some (.ref Rw)) v4 (some (.ref D)) v6 v7 ++ tl))) s' →
      xs'.length ≤ xs.length + 1 → bagVals bs' = bagVals bs → ToldIs oct r (rowAt rows) (also d i j) xs' → BagsIs (rowAt rows) rows.length (also d i j) bs' → Q .next s') :
    wpAny (model prog w) A (execs body11 env) Q E s := by
  have hh : A.handled = none := hr.hd
  have h6 := X.rowsF.high
  obtain ⟨pi, hpi, ei, gi⟩ := X.crook hi
  obtain ⟨pj, hpj, ej, gj⟩ := X.crook hj
  obtain ⟨cs, hC, hcs⟩ := X.crooked
  obtain ⟨t1, h1⟩ := gi cs hcs
  obtain ⟨t2, h2⟩ := gj cs hcs
  -- common
  refine execsNext (wpAny_Assign_Name ?_)
  refine cF1 S rfl B X16 he ?_
  refine List_ ?_
  refine args_cons (subS (ld' S he L.crooked (ld' S he hmi ⟨_, _, _, _, _, i, ti, S, hC, rfl, by omega, h1, ?_⟩)))
  refine args_cons (subS (ld' S he L.crooked (ld' S he hmj ⟨_, _, _, _, _, j, tj, S, hC, rfl, by omega, h2, ?_⟩)))
  refine args_nil (newListF S (by simp) fun l F1 s1 hle1 S1 hl => ⟨⟨_, _, S1⟩, ?_⟩)
  have li := crook_len r (X.piece pi hpi) (X.short pi hpi)
  have lj := crook_len r (X.piece pj hpj) (X.short pj hpj)
  refine callS S1 (commonC B G X16 X9 S1.pre (hr.le (by omega)) oct _ _ _ _ l (crook_byt r (X.piece pi hpi)) (by omega) (crook_byt r (X.piece pj hpj)) (by omega) (by rw [starts_crook, starts_crook]) hl) fun v F2 s2 hle2 S2 hv => ?_
  obtain ⟨tv, rfl⟩ := hv
  rw [com_crook r (X.piece pi hpi) (X.piece pj hpj), ei, ej]
  have hg : GoodN (lcpL (rowAt rows i) (rowAt rows j)) := (X.good hi).lcp
  have hlen : (lcpL (rowAt rows i) (rowAt rows j)).length ≤ 6 := Nat.le_trans (lcpL_le_l _ _) (X.six hi)
  have hcb := plain_byt r hg
  have hcz := plain_len r hg hlen
  refine st' S2 he fun s3 S3 => ⟨rfl, ?_⟩
  have hle := hle1.trans hle2
  have X' := X.le hle
  -- if isinstance(common, bytes) != octets
  refine execsNext (wpAny_If (wpAny_isTrue_Compare1 (cB2 (fun _ h => ldB S3 B G he h) (ld' S3 he rfl (ldB S3 B G he (isbytesT S3 fun s4 S4 => ?_))))))
  refine ldc' (a := a2) he (by rw [hc.e]; rfl) (S4.cell (v := some (.bool oct)) (by simp [lMu])) (neBB (wpAny_truthy_bool ?_))
  rw [show (!(oct == oct)) = false by simp, if_neg Bool.false_ne_true]
  refine wpAny_execs_nil ⟨rfl, ?_⟩
  -- told[i, j] = common
  refine execsNext (wpAny_Assign_Subscript (ld' S4 he rfl (ld' S4 he L.told ?_)))
  refine Tuple_ ?_
  refine args_cons (ld' S4 he hmi ?_)
  refine args_cons (ld' S4 he hmj ?_)
  refine args_nil (newTupleS S4 (by simp) fun ta F3 s5 hle3 S5 _ hta => ?_)
  have S5' := (S5.swap.weak fun o ho => dictT.mono (hle.trans hle3) ho)
  refine dictSetT (k := [(i : Int), (j : Int)]) (by have := (hr.le (by omega : 2 ≤ 30)).units; show _ < 9900; omega) S5' ⟨_, hta, .cons _ _ (.cons _ _ .nil)⟩ (by omega) fun s6 S6 => ⟨rfl, ?_⟩
  have S7 := S6.swap
  have X3 := X'.le hle3
  have hle' := hle.trans hle3
  -- steps[i][j] = ..
  obtain ⟨vsi, vi, wi, hRw, hvi, hwi, htxi⟩ := X3.row hi
  obtain ⟨vsj, vj, wj, hRw2, hvj, hwj, htxj⟩ := X3.row hj
  have hwil : wi.length = (rowAt rows i).length := htxi.length.symm
  have hwjl : wj.length = (rowAt rows j).length := htxj.length.symm
  have h6i := X.six hi
  have h6j := X.six hj
  obtain ⟨ts, hsl⟩ := L.slash
  obtain ⟨ad, ws, hbi⟩ : ∃ ad ws, bs[i]? = some (ad, ws) := ⟨_, _, List.getElem?_eq_getElem (by rw [hb.1]; exact hi)⟩
  obtain ⟨hwl, _⟩ := hb.2 i ad ws hbi
  refine execsNext (wpAny_Assign_Subscript ?_)
  refine wpAny_BinOp ?_
  refine wpAny_BinOp ?_
  refine cB1 (fun _ h => ldB S7 B G he h) ?_
  refine subS (ldc' (a := a3) he (by rw [hc.e]; rfl) (S7.cell (v := some (.ref Rw)) (by simp [lMu])) (ld' S7 he hmi ⟨_, _, _, _, _, i, ti, S7, hRw, rfl, by omega, hvi, ?_⟩))
  refine lenS S7 hwi (by omega) fun s8 t8 S8 => ?_
  refine cB1 (fun _ h => ldB S8 B G he h) ?_
  refine subS (ldc' (a := a3) he (by rw [hc.e]; rfl) (S8.cell (v := some (.ref Rw)) (by simp [lMu])) (ld' S8 he hmj ⟨_, _, _, _, _, j, tj, S8, hRw2, rfl, by omega, hvj, ?_⟩))
  refine lenS S8 hwj (by omega) fun s9 t9 S9 => addI S9 fun s10 t10 S10 => ?_
  refine wpAny_BinOp ?_
  refine constI S10 fun s11 t11 S11 => ?_
  refine cntE (c := cx H F0 s0) (l := plainT r (lcpL (rowAt rows i) (rowAt rows j))) (oct := oct) (tc := tv) (ts := ts) B G he hh S11 rfl hsl hcb (by omega) fun F4 s12 t12 hle4 S12 => ?_
  rw [plain_split hg]
  refine mul2I S12 fun s13 t13 S13 => subI S13 fun s14 t14 S14 => ?_
  have hval : ((wi.length : Int) + wj.length - 2 * (lcpL (rowAt rows i) (rowAt rows j)).length) = dist (rowAt rows) i j := by
    unfold dist; rw [hwil, hwjl]
  rw [hval]
  refine subS (ldc' (a := a5) he (by rw [hc.e]; rfl) (S14.cell (v := some (.ref D)) (by simp [lMu])) (ld' S14 he hmi ⟨_, _, _, _, _, i, ti, S14, hD.le (hle'.trans hle4), rfl, by omega, bagVals_get hbi, ?_⟩))
  refine ld' S14 he hmj ?_
  have S15 := (S14.swap.weak fun o ho => dictT.mono hle4 ho)
  obtain ⟨rest, g1, g2⟩ := bag_focus (S15.perm ((List.Perm.swap _ _ _).trans (List.Perm.cons _ (List.perm_middle (l₁ := bagMu bs) (a := (Td, _)) (l₂ := _)).symm))) hbi
  refine setItemL g1 (by omega) (by omega) fun s16 S16 => ⟨rfl, wpAny_execs_nil ?_⟩
  have S17 := g2 _ _ _ _ S16
  refine h F4 s16 _ _ (bs.set i (ad, ws.set j (.int (dist (rowAt rows) i j) t14))) (hle'.trans hle4) (S17.perm (List.Perm.cons _ List.perm_middle)) (storedH_len _ _ _ _) (bagVals_set hbi) (ht.step i j ta tv) (hb.step hbi hj t14)
end
end Mine
end

section
/-! W8: law: the two fors. -/
set_option maxRecDepth 100000
set_option maxHeartbeats 4000000
namespace Mine
open PySem PySem.Calls PyProof.Rows PySem.W PySem.Builtin

theorem perm_tail {x a b t : Addr × (Obj → Prop)} {B L : Mu} : (x :: a :: b :: t :: (B ++ L)).Perm (x :: t :: (B ++ (L ++ [a, b]))) := by
  refine List.Perm.cons _ ?_
  have h : ([a, b] ++ (t :: (B ++ L))).Perm ((t :: (B ++ L)) ++ [a, b]) := List.perm_append_comm
  have e : (t :: (B ++ L)) ++ [a, b] = t :: (B ++ (L ++ [a, b])) := by simp
  rw [e] at h
  exact h

theorem LM.upd {m : PySem.Str → Option Value} {oct : Bool} {C P Td : Addr} (L : LM m oct C P Td) (x : PySem.Str) (v : Value) (h1 : ("crooked" : PySem.Str) ≠ x := by decide) (h2 : ("plain" : PySem.Str) ≠ x := by decide) (h3 : ("told" : PySem.Str) ≠ x := by decide) (h4 : ("slash" : PySem.Str) ≠ x := by decide) : LM (Mine.upd m x v) oct C P Td := by
  obtain ⟨t, h⟩ := L.slash
  exact ⟨(if_neg h1).trans L.crooked, (if_neg h2).trans L.plain, (if_neg h3).trans L.told, ⟨t, (if_neg h4).trans h⟩⟩

section
variable {prog : Program} {w : World} {A : Around} {E : Value → Shared → Prop} {H : Heap} {mg mb : PySem.Str → Option Value} {F : Fz} {m : PySem.Str → Option Value} {mu : Mu} {s s0 : Shared} {env : Env} {a1 a2 a3 a4 a5 a6 a7 : Addr} {F0 : Fz} {Q : Flow → Shared → Prop}

theorem law11 {f16 f9 : Addr} {d16 d9 : FuncData} (B : Bs H mg mb) (G : Gl mg) (X16 : FnAt H mg "commonpath" (nth 16) f16 d16) (X9 : FnAt H mg "fspath" (nth 9) f9 d9) (he : EnvOk env (fScope lawSt)) (hr : Rm A 30) (hc : LCells env a1 a2 a3 a4 a5 a6 a7)
    {oct r : Bool} {pss rows : List (List T)} {Rw C P Td D : Addr} {bs0 : Bags} {tn : Tok} {v6 v7 : Option Value}
    (S : St (cx H F0 s0) F env.locals m ((Td, dictT prog w F []) :: (bagMu bs0 ++ lMu a1 a2 a3 a4 a5 a6 a7 (some (.bool r)) (some (.bool oct)) (some (.ref Rw)) (some (.int rows.length tn)) (some (.ref D)) v6 v7)) s)
    (X : LawX F oct r pss rows Rw C P) (L : LM m oct C P Td) (hD : SList F (.ref D) (bagVals bs0)) (hb0 : bs0.length = rows.length) (hb1 : ∀ p ∈ bs0, ∃ t, p.2 = List.replicate rows.length (.int 0 t))
    (h : ∀ F' s' m' xs, F.Le F' → St (cx H F0 s0) F' env.locals m' ((Td, dictT prog w F' xs) :: lMu a1 a2 a3 a4 a5 a6 a7 (some (.bool r)) (some (.bool oct)) (some (.ref Rw)) (some (.int rows.length tn)) (some (.ref D)) v6 v7) s' → LM m' oct C P Td →
      ToldIs oct r (rowAt rows) (fun a b => a < rows.length ∧ b < rows.length) xs → Mat F' (.ref D) rows.length (dist (rowAt rows)) → Q .next s') :
    wpAny (model prog w) A (exec (lawI 11) env) Q E s := by
  have hh : A.handled = none := hr.hd
  have h6 := X.rowsF.high
  generalize hlm : lMu a1 a2 a3 a4 a5 a6 a7 (some (.bool r)) (some (.bool oct)) (some (.ref Rw)) (some (.int rows.length tn)) (some (.ref D)) v6 v7 = lm at S h
  refine forS (fun i F m mu => ∃ xs bs, mu = (Td, dictT prog w F xs) :: (bagMu bs ++ lm) ∧ LM m oct C P Td ∧ ToldIs oct r (rowAt rows) (fun a b => a < i ∧ b < rows.length) xs ∧ BagsIs (rowAt rows) rows.length (fun a b => a < i ∧ b < rows.length) bs ∧ bagVals bs = bagVals bs0 ∧ xs.length ≤ 6 * i)
    (cT1 (fun _ h => ldB S B G he h) (ldc' (a := a4) he (by rw [hc.e]; rfl) (S.cell (v := some (.int rows.length tn)) (by rw [← hlm]; simp [lMu])) (range1 S (by omega) fun rg F1 s1 hle1 S1 hit1 => ?_)))
  refine ⟨_, _, _, _, _, _, (S1.swap.weak fun o ho => dictT.mono hle1 ho).swap, hit1 _ hh, ⟨[], bs0, rfl, L, fun a b x => absurd x.1 (Nat.not_lt_zero _), ⟨hb0, fun a ad ws hb => ?_⟩, rfl, Nat.zero_le _⟩, ?_, ?_⟩
  · obtain ⟨t, ht⟩ := hb1 _ (List.mem_of_getElem? hb)
    dsimp only at ht
    exact ⟨by rw [ht, List.length_replicate], fun b _ x => absurd x.1 (Nat.not_lt_zero _)⟩
  · rintro i v I K m1 F2 mu2 s2 hi ⟨ti, rfl⟩ hle2 ⟨xs, bs, rfl, L1, ht1, hg1, hv1, hx1⟩ S2
    refine wpAny_assign_Name (st' S2 he fun s3 S3 => ?_)
    have L2 := L1.upd "i" (.int (i : Nat) ti)
    refine execsNext (forS (fun j F m mu => ∃ xs bs, mu = (I, K) :: (Td, dictT prog w F xs) :: (bagMu bs ++ lm) ∧ LM m oct C P Td ∧ m "i" = some (.int (i : Nat) ti) ∧ ToldIs oct r (rowAt rows) (fun a b => (a < i ∧ b < rows.length) ∨ (a = i ∧ b < j)) xs ∧ BagsIs (rowAt rows) rows.length (fun a b => (a < i ∧ b < rows.length) ∨ (a = i ∧ b < j)) bs ∧ bagVals bs = bagVals bs0 ∧ xs.length ≤ 6 * i + j)
      (cT1 (fun _ h => ldB S3 B G he h) (ldc' (a := a4) he (by rw [hc.e]; rfl) (S3.cell (v := some (.int rows.length tn)) (by rw [← hlm]; simp [lMu])) (range1 S3 (by omega) fun rg2 F3 s4 hle3 S4 hit3 => ?_))))
    have S4' : St (cx H F0 s0) F3 env.locals (upd m1 "i" (.int (i : Nat) ti)) ((I, K) :: (Td, dictT prog w F3 xs) :: (bagMu bs ++ lm)) s4 := (S4.rot.weak fun o ho => dictT.mono hle3 ho).rot.rot
    refine ⟨_, _, _, _, _, _, S4', hit3 _ hh, ⟨xs, bs, rfl, L2, rfl, ht1.imp fun a b x => ?_, hg1.imp fun a b x => ?_, hv1, hx1⟩, ?_, ?_⟩
    · rcases x with x | x
      · exact x
      · exact absurd x.2 (Nat.not_lt_zero _)
    · rcases x with x | x
      · exact x
      · exact absurd x.2 (Nat.not_lt_zero _)
    · rintro j v I2 K2 m3 F4 mu4 s5 hj ⟨tj, rfl⟩ hle4 ⟨xs', bs', rfl, L3, hmi, ht3, hg3, hv3, hx3⟩ S5
      refine wpAny_assign_Name (st' S5 he fun s6 S6 => ?_)
      have S6' := S6.perm (perm_tail (B := bagMu bs') (L := lm))
      have L4 := L3.upd "j" (.int (j : Nat) tj)
      rw [← hlm] at S6'
      refine turn11 B G X16 X9 he hr hc S6' (X.le ((hle1.trans hle2).trans (hle3.trans hle4))) L4 (by rw [hv3]; exact hD.le ((hle1.trans hle2).trans (hle3.trans hle4))) hmi rfl hi hj (by omega) ht3 hg3 fun F5 s7 vc xs2 bs2 hle5 S7 hx5 hv5 ht5 hg5 => ?_
      rw [hlm] at S7
      refine ⟨_, F5, _, hle5, S7.perm (perm_tail (B := bagMu bs2) (L := lm)).symm, xs2, bs2, rfl, L4.upd "common" vc, hmi, ht5.imp fun a b x => ?_, hg5.imp fun a b x => ?_, hv5.trans hv3, by omega⟩
      · rcases x with x | x
        · exact .inl (.inl x)
        · by_cases hbj : b = j
          · exact .inr ⟨x.1, hbj⟩
          · exact .inl (.inr ⟨x.1, by omega⟩)
      · rcases x with x | x
        · exact .inl (.inl x)
        · by_cases hbj : b = j
          · exact .inr ⟨x.1, hbj⟩
          · exact .inl (.inr ⟨x.1, by omega⟩)
    · rintro F4 m4 mu4 s5 hle4 ⟨xs', bs', rfl, L3, hmi, ht3, hg3, hv3, hx3⟩ S5
      refine ⟨rfl, wpAny_execs_nil ⟨m4, F4, _, hle3.trans hle4, S5, xs', bs', rfl, L3, ht3.imp fun a b x => ?_, hg3.imp fun a b x => ?_, hv3, by omega⟩⟩
      · by_cases ha : a = i
        · exact .inr ⟨ha, x.2⟩
        · exact .inl ⟨by omega, x.2⟩
      · by_cases ha : a = i
        · exact .inr ⟨ha, x.2⟩
        · exact .inl ⟨by omega, x.2⟩
  · rintro F2 m2 mu2 s2 hle2 ⟨xs, bs, rfl, L1, ht1, hg1, hv1, hx1⟩ S2
    have S3 : St (cx H F0 s0) F2 env.locals m2 (bagMu bs ++ ((Td, dictT prog w F2 xs) :: lm)) s2 := S2.perm (List.Perm.cons _ List.perm_middle.symm)
    obtain ⟨F3, hle3, S4, hfr⟩ := bag_freeze bs F2 S3
    refine h F3 s2 m2 xs ((hle1.trans hle2).trans hle3) (S4.swap.weak fun o ho => dictT.mono hle3 ho).swap L1 ht1 ⟨bagVals bs, by rw [hv1]; exact hD.le ((hle1.trans hle2).trans hle3), by simp [bagVals, hg1.1], fun i hi => ?_⟩
    obtain ⟨ad, ws, hbi⟩ : ∃ ad ws, bs[i]? = some (ad, ws) := ⟨_, _, List.getElem?_eq_getElem (by rw [hg1.1]; exact hi)⟩
    obtain ⟨w1, w2⟩ := hg1.2 i ad ws hbi
    exact ⟨.ref ad, ws, bagVals_get hbi, hfr _ (List.mem_of_getElem? hbi), fun j hj => w2 j hj ⟨hi, hj⟩⟩
end
end Mine
end

section
/-! W9: law: shared: rules, the while. -/
set_option maxRecDepth 100000
set_option maxHeartbeats 4000000
namespace Mine
open PySem PySem.Calls PyProof.Rows PySem.W PySem.Builtin

section
variable {prog : Program} {w : World} {A : Around} {E : Value → Shared → Prop} {F : Fz} {mu : Mu} {s : Shared} {c : Cx} {env : Env}

/-- a slice of any expression -/
theorem sliceAny {value : Expr} {lower upper : Option Expr} {p pos : Pos} {T id : String} {Q : Value → Shared → Prop}
    (hl : typeLookup (.type T) "__getitem__" = pure (some (.builtin id)))
    (h : wpAny (model prog w) A (eval value env) (fun o s₁ => wpAny (model prog w) A (eval (.Slice lower upper none p) env) (fun i s₂ => s₂.TypeIs o T ∧ wpAny (model prog w) A (getItem o i) Q E s₂) E s₁) E s) :
    wpAny (model prog w) A (eval (.Subscript value (.Slice lower upper none p) pos) env) Q E s := by
  refine Subscript_ (wpAny_mono h (fun o s₁ h₁ => wpAny_mono h₁ (fun i s₂ h₂ => ?_) fun _ _ e => e) fun _ _ e => e)
  unfold subscriptTail
  refine wpAny_bind ?_
  rw [getitemInPython_of_ne h₂.1.not_modules]
  refine wpAny_bind (wpAny_specialOf h₂.1 hl ?_)
  have fin : wpAny (model prog w) A (operate [i, o] (getItem o i)) (fun r s₃ => wpAny (model prog w) A (letTemporaryGo value o r >>= fun _ => pure r) Q E s₃) E s₂ :=
    wpAny_operating (wpAny_mono h₂.2 (fun r s₃ h₃ => wpAny_bind (wpAny_letTemporaryGo (wpAny_pure h₃))) fun _ _ x => x)
  first
    | exact wpAny_pure (wpAny_bind fin)
    | exact wpAny_bind (wpAny_pure (wpAny_bind fin))
    | exact wpAny_bind fin
theorem sliceB {value : Expr} {lower upper : Option Expr} {p pos : Pos} {Q : Value → Shared → Prop}
    (h : wpAny (model prog w) A (eval value env) (fun o s₁ => wpAny (model prog w) A (evalPart lower env) (fun vl s₂ => wpAny (model prog w) A (evalPart upper env) (fun vu s₃ => ∃ c F mu vs, ∃ (lo hi : Option Nat), St0 c F mu s₃ ∧ SList F o vs ∧ vs.length ≤ 100000 ∧
      IsPart vl (lo.map fun n => (n : Int)) ∧ IsPart vu (hi.map fun n => (n : Int)) ∧ ∀ a F' s', F.Le F' → St0 c F' mu s' → SList F' (.ref a) (cutL vs lo hi) → Q (.ref a) s') E s₂) E s₁) E s) :
    wpAny (model prog w) A (eval (.Subscript value (.Slice lower upper none p) pos) env) Q E s := by
  refine sliceAny (T := "list") list_getitem_lookup (wpAny_mono h (fun o s₁ h₁ => wpAny_Slice (wpAny_mono h₁ (fun vl s₂ h₂ => wpAny_mono h₂ (fun vu s₃ h₃ => ?_) fun _ _ e => e) fun _ _ e => e)) fun _ _ e => e)
  obtain ⟨c, F, mu, vs, lo, hi, S, hl, hz, pl, pu, hq⟩ := h₃
  obtain ⟨l, ol, rfl, _⟩ := id hl
  obtain ⟨le1, S₁⟩ := S.pushF { cls := .type "slice", data := .fields #[vl, vu, .none] } rfl
  obtain ⟨le2, S₂⟩ := S₁.pushF { cls := .type "list", data := .seq (cutL vs lo hi).toArray } rfl
  rw [evalPart_none]
  refine wpAny_pure ⟨((hl.isList S.inn).push _).typeIs, wpAny_getItem_list_slice ((hl.isList S.inn).push _) (Heap.IsSliceOf.new ..) pl pu .none (by simp) ?_ (by rw [List.size_toArray]; show vs.length ≤ 2 ^ 24; omega)⟩
  rw [slicePick_cut]
  exact hq _ _ _ (le1.trans le2) S₂ ⟨_, _, rfl, Fz.put_self _ _ _, rfl, rfl, _, rfl⟩

/-- lists of texts by != -/
theorem neListsT {oct : Bool} {l b : Addr} {ps qs : List T} {vs ws : List Value} {Q : Value → Shared → Prop} (S : St0 c F mu s) (hl : SList F (.ref l) vs) (hl2 : SList F (.ref b) ws) (hv : TxL oct ps vs) (hw : TxL oct qs ws) (hb : ∀ p ∈ ps, Byt p) (hb2 : ∀ p ∈ qs, Byt p) (hu : A.units < cLine)
    (h : Q (.bool (decide (ps ≠ qs))) s) : wpAny (model prog w) A (compareOp .NotEq (.ref l) (.ref b)) Q E s := by
  have e1 : vs.length = ps.length := hv.length.symm
  have e2 : ws.length = qs.length := hw.length.symm
  by_cases hlen : ps.length = qs.length
  · have key := SeqAt.RcNeAt.lists (A := A) (s := s) (e := fun j => decide (ps.getD j [] = qs.getD j [])) (hl.isList S.inn) (hl2.isList S.inn) (by simp; omega) hu (fun j h1 h2 => by
      have hj1 : j < ps.length := by simp at h1; omega
      have hj2 : j < qs.length := by simp at h2; omega
      obtain ⟨p, t, hp, hvp⟩ := hv.get j hj1
      obtain ⟨q, u, hq, hwq⟩ := hw.get j hj2
      have x1 : vs.toArray[j] = tx oct p t := by
        have : vs.toArray[j]? = some (tx oct p t) := by simpa using hvp
        rw [Array.getElem?_eq_getElem h1] at this; exact Option.some.inj this
      have x2 : ws.toArray[j] = tx oct q u := by
        have : ws.toArray[j]? = some (tx oct q u) := by simpa using hwq
        rw [Array.getElem?_eq_getElem h2] at this; exact Option.some.inj this
      rw [x1, x2, List.getD_eq_getElem?_getD, List.getD_eq_getElem?_getD, hp, hq]
      exact eqAt (hb p (List.mem_of_getElem? hp)) (hb2 q (List.mem_of_getElem? hq)))
    refine key prog w E Q ?_
    have e : (!(List.range vs.toArray.size).all fun j => decide (ps.getD j [] = qs.getD j [])) = decide (ps ≠ qs) := by
      rw [Bool.eq_iff_iff, Bool.not_eq_true', decide_eq_true_eq, ← Bool.not_eq_true, List.all_eq_true]
      constructor
      · rintro hn rfl
        exact hn fun j _ => by simp
      · intro hne hall
        apply hne
        apply List.ext_getElem? 
        intro j
        by_cases hj : j < ps.length
        · have := hall j (List.mem_range.mpr (by simp; omega))
          rw [decide_eq_true_eq, List.getD_eq_getElem?_getD, List.getD_eq_getElem?_getD] at this
          rw [List.getElem?_eq_getElem hj, List.getElem?_eq_getElem (show j < qs.length by omega)] at this ⊢
          simpa using this
        · rw [List.getElem?_eq_none (by omega), List.getElem?_eq_none (by omega)]
    rw [e]; exact h
  · refine SeqAt.RcNeAt.lists_lengths (hl.isList S.inn) (hl2.isList S.inn) (by simp; omega) hu prog w E Q ?_
    rw [decide_eq_true (show ps ≠ qs from fun e => hlen (by rw [e]))] at h
    exact h

/-- a dict that stands still -/
def TF (prog : Program) (w : World) (F : Fz) (D : Addr) (xs : List (List Int × Addr × Value)) : Prop := ∃ o, F D = some o ∧ dictT prog w F xs o
theorem TF.le {F' : Fz} {D : Addr} {xs : List (List Int × Addr × Value)} (h : TF prog w F D xs) (l : F.Le F') : TF prog w F' D xs := let ⟨o, h1, h2⟩ := h; ⟨o, l _ _ h1, h2.mono l⟩
theorem TF.get {D a : Addr} {xs : List (List Int × Addr × Value)} {k : List Int} {p : Addr × Value} {Q : Value → Shared → Prop} (hu : A.units + 1 < cLine) (S : St0 c F mu s) (x : TF prog w F D xs) (hk : ITup F a k) (hp : atKey xs k = some p)
    (h : ∀ s', St0 c F mu s' → Q p.2 s') : wpAny (model prog w) A (getItem (.ref D) (.ref a)) Q E s := by
  obtain ⟨o, ho, h1, ⟨es, ep, h2, h3⟩, h4, h5⟩ := x
  exact wpAny_getItem_heap (knd := TI prog w) (tupleKind_room_in1 hu) (hk.key S.inn) ⟨o, es, ep, S.inn _ _ ho, h1, h2, h3, fun x hx => (h4 x hx).key S.inn, h5⟩ hp (h _ (S.tok _))
theorem told_freeze {L : Addr} {m : PySem.Str → Option Value} {D : Addr} {xs : List (List Int × Addr × Value)} (S : St c F L m ((D, dictT prog w F xs) :: mu) s) : ∃ F', F.Le F' ∧ St c F' L m mu s ∧ TF prog w F' D xs := by
  obtain ⟨o, ho, hle, hF, S'⟩ := S.swap.freeze
  exact ⟨_, hle, S', o, hF, ho.mono hle⟩
end

section
variable {prog : Program} {w : World} {A : Around} {E : Value → Shared → Prop} {H : Heap} {mg mb : PySem.Str → Option Value} {F : Fz} {m : PySem.Str → Option Value} {mu : Mu} {s s0 : Shared} {env : Env} {a1 a2 a3 a4 a5 a6 a7 : Addr} {F0 : Fz} {Q : Flow → Shared → Prop}

theorem law12 (he : EnvOk env (fScope lawSt)) (hc : LCells env a1 a2 a3 a4 a5 a6 a7) {v1 v2 v3 v4 v5 v6 v7 : Option Value} (S : St (cx H F0 s0) F env.locals m (lMu a1 a2 a3 a4 a5 a6 a7 v1 v2 v3 v4 v5 v6 v7) s)
    (h : ∀ t s', St (cx H F0 s0) F env.locals m (lMu a1 a2 a3 a4 a5 a6 a7 v1 v2 v3 v4 v5 (some (.int 0 t)) v7) s' → Q .next s') :
    wpAny (model prog w) A (exec (lawI 12) env) Q E s := by
  refine wpAny_Assign_Name (constI S fun s2 t S2 => ?_)
  exact stcI 1 S2 rfl he (by rw [hc.e]; rfl) fun s3 S3 => h _ _ S3
end
end Mine
end

section
/-! W10: law: the while. -/
set_option maxRecDepth 100000
set_option maxHeartbeats 4000000
namespace Mine
open PySem PySem.Calls PyProof.Rows PySem.W PySem.Builtin

def oneAt (row : List T) (sh : Nat) : List T := (row.drop sh).take 1
theorem oneAt_iff {a b : List T} {sh : Nat} : oneAt a sh = oneAt b sh ↔ a[sh]? = b[sh]? := by
  have key : ∀ r : List T, oneAt r sh = (r[sh]?).toList := fun r => by
    unfold oneAt
    rw [List.take_one, List.head?_drop]
  rw [key, key]
  constructor
  · intro h
    cases h1 : a[sh]? <;> cases h2 : b[sh]? <;> rw [h1, h2] at h <;> simp_all
  · intro h; rw [h]
theorem cutL_one {α : Type} (vs : List α) (sh : Nat) : cutL vs (some sh) (some (sh + 1)) = (vs.drop sh).take 1 := by
  unfold cutL
  simp only [Option.getD_some]
  rw [show sh + 1 - sh = 1 by omega]

section
variable {prog : Program} {w : World} {A : Around} {E : Value → Shared → Prop} {H : Heap} {mg mb : PySem.Str → Option Value} {F : Fz} {m : PySem.Str → Option Value} {mu : Mu} {s s0 : Shared} {env : Env} {a1 a2 a3 a4 a5 a6 a7 : Addr} {F0 : Fz} {Q : Flow → Shared → Prop}

theorem law13 (B : Bs H mg mb) (G : Gl mg) (he : EnvOk env (fScope lawSt)) (hr : Rm A 30) (hc : LCells env a1 a2 a3 a4 a5 a6 a7) {oct r : Bool} {pss rows : List (List T)} {Rw C Pl : Addr} {v1 v2 v4 v5 v7 : Option Value} {t0 : Tok}
    (S : St (cx H F0 s0) F env.locals m (lMu a1 a2 a3 a4 a5 a6 a7 v1 v2 (some (.ref Rw)) v4 v5 (some (.int 0 t0)) v7) s) (X : LawX F oct r pss rows Rw C Pl)
    (h : ∀ F' s' sh t, F.Le F' → SharedIs rows.length (rowAt rows) sh → St (cx H F0 s0) F' env.locals m (lMu a1 a2 a3 a4 a5 a6 a7 v1 v2 (some (.ref Rw)) v4 v5 (some (.int (sh : Nat) t)) v7) s' → Q .next s') :
    wpAny (model prog w) A (exec (lawI 13) env) Q E s := by
  have hh : A.handled = none := hr.hd
  have h6 := X.rowsF.high
  have h2 := X.rowsF.low
  have hn0 : 0 < rows.length := by omega
  refine wpAny_While (codeAny_whileLoop (fun k s' => ∃ sh F' t, k = (rowAt rows 0).length - sh ∧ sh ≤ (rowAt rows 0).length ∧ F.Le F' ∧ (∀ i, i < rows.length → (rowAt rows i).take sh = (rowAt rows 0).take sh ∧ sh ≤ (rowAt rows i).length) ∧
    St (cx H F0 s0) F' env.locals m (lMu a1 a2 a3 a4 a5 a6 a7 v1 v2 (some (.ref Rw)) v4 v5 (some (.int (sh : Nat) t)) v7) s') ?_ _ ⟨0, F, t0, rfl, Nat.zero_le _, .refl _, fun i _ => ⟨by simp, Nat.zero_le _⟩, S⟩)
  rintro k s1 ⟨sh, F1, t, rfl, hsh, hle, hag, S1⟩
  have X1 := X.le hle
  obtain ⟨vs0, v0, w0, hRw, hv0, hw0, htx0⟩ := X1.row hn0
  have hw0l : w0.length = (rowAt rows 0).length := htx0.length.symm
  have h60 := X.six hn0
  refine wpAny_isTrue_BoolOp (wpAny_allTrue_And_cons ?_)
  refine wpAny_isTrue_Compare1 (ldc' (a := a6) he (by rw [hc.e]; rfl) (S1.cell (v := some (.int (sh : Nat) t)) (by simp [lMu])) ?_)
  refine cB1 (fun _ h => ldB S1 B G he h) ?_
  refine subS (ldc' (a := a3) he (by rw [hc.e]; rfl) (S1.cell (v := some (.ref Rw)) (by simp [lMu])) (constI S1 fun s2 t2 S2 => ⟨_, _, _, _, _, 0, t2, S2, hRw, rfl, by omega, hv0, ?_⟩))
  refine lenS S2 hw0 (by omega) fun s3 t3 S3 => P.lt_int (wpAny_truthy_bool ?_)
  rw [hw0l]
  by_cases hlt : sh < (rowAt rows 0).length
  · rw [decide_eq_true (show (sh : Int) < ((rowAt rows 0).length : Int) by omega), if_pos rfl]
    refine wpAny_allTrue_And_cons ?_
    refine wpAny_isTrue_Compare1 ?_
    obtain ⟨vs, hvs, hps⟩ := X1.rowsF.is
    have hvl : vs.length = rows.length := hps.length.symm
    refine lcomp (cl := [(("shared" : PySem.Str), a6), (("rows" : PySem.Str), a3)]) hh he (by rw [hc.e]; rfl) (by rfl) (fun i F ys => ys = [] ↔ ∀ a, a < i → oneAt (rowAt rows a) sh = oneAt (rowAt rows 0) sh) (fun _ _ _ _ _ h => h) (ldc' (a := a3) he (by rw [hc.e]; rfl) (S3.cell (v := some (.ref Rw)) (by simp [lMu])) ?_)
    refine ⟨_, _, _, _, _, S3, itList hh hvs, by omega, ⟨fun _ a ha => absurd ha (Nat.not_lt_zero _), fun _ => rfl⟩, ?_, ?_⟩
    · intro cenv i v I K D m4 F4 ys s4 heC hcC hi hvi hle4 hJ hys S4
      have hi' : i < rows.length := by omega
      refine wpAny_assign_Name (st' S4 heC fun s5 S5 => wpAny_tests_one ?_)
      obtain ⟨ps, v', hp1, hp2, ws, hws, hwt⟩ := Paired.get hps i hi'
      rw [hvi] at hp2; cases hp2
      rw [rowAt_get hi'] at hp1; cases hp1
      have hwl : ws.length = (rowAt rows i).length := hwt.length.symm
      have h6i := X.six hi'
      have k3 : cenv.cells.lookup ("rows" : PySem.Str) = some a3 := by rw [hcC]; rfl
      have k6 : cenv.cells.lookup ("shared" : PySem.Str) = some a6 := by rw [hcC]; rfl
      have o3 := S3.cell (a := a3) (v := some (.ref Rw)) (by simp [lMu])
      have o6 := S3.cell (a := a6) (v := some (.int (sh : Nat) t)) (by simp [lMu])
      have e1 : (sh : Int) + 1 = ((sh + 1 : Nat) : Int) := by omega
      refine wpAny_isTrue_Compare1 ?_
      refine sliceB ?_
      refine ld' S5 heC rfl ?_
      refine evalPart_some_step (ldc' (a := a6) heC k6 (oldCell S5 o6) ?_)
      refine evalPart_some_step (wpAny_BinOp (ldc' (a := a6) heC k6 (oldCell S5 o6) (constI S5 fun s6 t6 S6 => addI S6 fun s7 t7 S7 => ?_)))
      rw [e1]
      refine ⟨_, _, _, ws, some sh, some (sh + 1), S7, hws.le hle4, by omega, .int _ _, .int _ _, fun ac F5 s8 hle5 S8 hac => ?_⟩
      refine sliceB ?_
      refine subS (ldc' (a := a3) heC k3 (oldCell S8 o3) (constI S8 fun s9 t9 S9 => ⟨_, _, _, _, _, 0, t9, S9, hRw.le (hle4.trans hle5), rfl, by omega, hv0, ?_⟩))
      refine evalPart_some_step (ldc' (a := a6) heC k6 (oldCell S9 o6) ?_)
      refine evalPart_some_step (wpAny_BinOp (ldc' (a := a6) heC k6 (oldCell S9 o6) (constI S9 fun s10 t10 S10 => addI S10 fun s11 t11 S11 => ?_)))
      rw [e1]
      refine ⟨_, _, _, w0, some sh, some (sh + 1), S11, hw0.le (hle4.trans hle5), by omega, .int _ _, .int _ _, fun ac2 F6 s12 hle6 S12 hac2 => ?_⟩
      rw [cutL_one] at hac hac2
      refine neListsT (ps := oneAt (rowAt rows i) sh) (qs := oneAt (rowAt rows 0) sh) S12 (hac.le hle6) hac2 ((hwt.drop sh).take 1) ((htx0.drop sh).take 1) (fun p hp => (X.good hi' p (List.mem_of_mem_drop (List.mem_of_mem_take hp))).1.byt) (fun p hp => (X.good hn0 p (List.mem_of_mem_drop (List.mem_of_mem_take hp))).1.byt) (hr.le (by omega : 1 ≤ 30)).c (wpAny_truthy_bool ?_)
      by_cases hone : oneAt (rowAt rows i) sh = oneAt (rowAt rows 0) sh
      · rw [decide_eq_false (not_not_intro hone), if_neg Bool.false_ne_true]
        refine ⟨_, F6, hle5.trans hle6, S12, ?_⟩
        rw [hJ]
        constructor
        · intro hq a ha
          by_cases hai : a = i
          · rw [hai]; exact hone
          · exact hq a (by omega)
        · exact fun hq a ha => hq a (by omega)
      · rw [decide_eq_true hone, if_pos rfl]
        refine ld' S12 heC rfl ⟨_, F6, hle5.trans hle6, S12, ?_⟩
        constructor
        · intro hq; simp at hq
        · intro hq; exact absurd (hq i (by omega)) hone
    · intro D F4 ys s4 hle4 S4 hD hJ hlen
      refine List_ (args_nil (newListF S4 (by simp) fun e0 F5 s5 hle5 S5 he0 => ?_))
      refine eqListS S5 (hD.le hle5) he0 (hr.le (by omega : 1 ≤ 30)).c (wpAny_truthy_bool ?_)
      by_cases hys : ys = []
      · rw [decide_eq_true hys, if_pos rfl]
        refine wpAny_allTrue_And_nil ?_
        rw [if_pos rfl]
        have hall := hJ.mp hys
        refine wpAny_execs_cons (wpAny_AugAssign_Name ?_)
        refine wpAny_loadName_cell (by rw [he.scope]; rfl) (he.kind rfl) (by rw [hc.e]; rfl) (S5.cell (a := a6) (v := some (.int (sh : Nat) t)) (by simp [lMu])) ?_
        refine constI S5 fun s6 t6 S6 => iaddI S6 fun s7 t7 S7 => ?_
        refine stcI 1 S7 rfl he (by rw [hc.e]; rfl) fun s8 S8 => wpAny_execs_nil ?_
        rw [show (sh : Int) + 1 = ((sh + 1 : Nat) : Int) by omega] at S8
        refine ⟨(rowAt rows 0).length - (sh + 1), by omega, sh + 1, F5, t7, rfl, hlt, (hle.trans hle4).trans hle5, fun i hi => ?_, S8⟩
        obtain ⟨g1, g2⟩ := hag i hi
        have g3 := oneAt_iff.mp (hall i (by omega))
        rw [List.getElem?_eq_getElem hlt] at g3
        have g4 := (List.getElem?_eq_some_iff.mp g3).1
        refine ⟨?_, g4⟩
        rw [List.take_add_one, List.take_add_one, g1, g3, List.getElem?_eq_getElem hlt]
      · rw [decide_eq_false hys, if_neg Bool.false_ne_true, if_neg Bool.false_ne_true]
        refine wpAny_execs_nil (h F5 s5 sh t ((hle.trans hle4).trans hle5) ⟨fun i hi => (hag i hi).1, fun i hi => (hag i hi).2, .inr ?_⟩ S5)
        by_cases hex : ∃ i, i < rows.length ∧ (rowAt rows i)[sh]? ≠ (rowAt rows 0)[sh]?
        · exact hex
        · exfalso
          apply hys
          rw [hJ]
          intro a ha
          rw [oneAt_iff]
          by_cases hq : (rowAt rows a)[sh]? = (rowAt rows 0)[sh]?
          · exact hq
          · exact absurd ⟨a, by omega, hq⟩ hex
  · rw [decide_eq_false (show ¬ (sh : Int) < ((rowAt rows 0).length : Int) by omega), if_neg Bool.false_ne_true, if_neg Bool.false_ne_true]
    exact wpAny_execs_nil (h F1 s3 sh t hle ⟨fun i hi => (hag i hi).1, fun i hi => (hag i hi).2, .inl (by omega)⟩ S3)
end
end Mine
end

section
/-! W11: law: folders. -/
set_option maxRecDepth 100000
set_option maxHeartbeats 4000000
namespace Mine
open PySem PySem.Calls PyProof.Rows PySem.W PySem.Builtin

section
variable {prog : Program} {w : World} {A : Around} {E : Value → Shared → Prop} {F : Fz} {mu : Mu} {s : Shared} {c : Cx} {env : Env} {sc : Scope}

theorem swaps_set {elt : Expr} {gens : List Comprehension} {scope : Scope} {vpos pos : Pos} {t : PySem.Str} {line : Nat} (he : EnvOk env sc) (hk : sc.kind = .function) :
    swapsWith (.SetComp elt gens scope vpos) (some (.Name t pos)) line env = pure (swapB sc t pos vpos scope) := by
  unfold swapsWith swapB
  have e1 : env.blockKind = .function := by unfold Env.blockKind; rw [he.scope, hk]; rfl
  have e2 : env.kindOf t = sc.names.lookup t := by unfold Env.kindOf; rw [he.scope]
  simp only [e1, e2, hk]
  rfl

/-- x = {.. for ..}, x a local name -/
theorem scompA {elt target iter : Expr} {gs : List Comprehension} {scope : Scope} {vpos pos pos' : Pos} {x : PySem.Str} {cl : List (PySem.Str × Addr)} {Q : Flow → Shared → Prop} {E : Value → Shared → Prop} {Body : Value → Env → Sem Unit}
    (he : EnvOk env sc) (hk : sc.kind = .function) (hsw : swapB sc x pos' vpos scope = true) (hcl : closL scope.names env.cells [] = some cl) (hsc : compNames scope = true)
    (hturn : ∀ it acc env, compTurn (.SetComp elt (⟨target, iter, [], 0⟩ :: gs) scope vpos) 0 it acc env = (standAt iter.pos >>= fun _ => pyNext it >>= fun r => match r with
      | none => pure (.done .next)
      | some v => letOwnedTupleGo target it v >>= fun _ => assign target env v >>= fun _ => Body acc env >>= fun _ => again (.compLoop (.SetComp elt (⟨target, iter, [], 0⟩ :: gs) scope vpos) 0 it acc env)))
    (J : Nat → Fz → (Obj → Prop) → Prop)
    (hit : wpAny (model prog w) A (eval iter env) (fun x₀ s₁ => ∃ c₁ F₁ m₁ mu₁ n item, St c₁ F₁ env.locals m₁ mu₁ s₁ ∧ ItOf prog w A F₁ x₀ n item ∧ J 0 F₁ (set0 w) ∧
      (∀ cenv i v I K D m F' Acc s', EnvOk cenv (relab scope sc) → cenv.cells = cl → i < n → item i v → F₁.Le F' → J i F' Acc →
        St (cx c₁.base F₁ s₁) F' cenv.locals m [(I, K), (D, Acc)] s' →
        wpAny (model prog w) A (assign target cenv v) (fun _ s₂ => wpAny (model prog w) A (Body (.ref D) cenv) (fun _ s₃ => ∃ m' F'' Acc', F'.Le F'' ∧ St (cx c₁.base F₁ s₁) F'' cenv.locals m' [(I, K), (D, Acc')] s₃ ∧ J (i + 1) F'' Acc') NE s₂) NE s') ∧
      (∀ D F' Acc s', F₁.Le F' → St c₁ F' env.locals (upd m₁ x (.ref D)) ((D, Acc) :: mu₁) s' → J n F' Acc → Q .next s')) E s)
    (hs : ∀ x, foldedSetIterable iter env x = pure x := by intro _; rfl) (hl : sc.names.lookup x = some .local := by rfl) :
    wpAny (model prog w) A (exec (.Assign [.Name x pos'] (.SetComp elt (⟨target, iter, [], 0⟩ :: gs) scope vpos) pos) env) Q E s := by
  rw [exec_Assign_Name_used _ _ _ _ (by rw [swaps_set he hk, hsw])]
  refine wpAny_bind (wpAny_standAt (wpAny_bind ?_))
  rw [arm_evalThenUse_SetComp]
  show wpAny (model prog w) A (comprehension (.SetComp elt (⟨target, iter, [], 0⟩ :: gs) scope vpos) scope env (firstIterPos (⟨target, iter, [], 0⟩ :: gs) vpos) (newSet (.type "set")) false (eval iter env) (some (assign (.Name x pos') env)) >>= fun _ => pure ()) _ E s
  refine wpAny_bind (scompCore (use := some (assign (.Name x pos') env)) he hcl hsc hturn J (wpAny_mono hit (fun x₀ s₁ h => ?_) fun _ _ e => e) hs)
  obtain ⟨c₁, F₁, m₁, mu₁, n, item, h1, h2, h3, h4, h5⟩ := h
  refine ⟨c₁, F₁, _, n, item, h1, h2, h3, h4, fun C D F' m Acc s' a1 a2 a3 => ?_⟩
  refine wpAny_assign_Name (st' (St0.rot a2) he (fun s₂ T => ?_) hk hl)
  exact ⟨c₁, F', _, m, T.rot.rot.swap23, fun s'' a6 => wpAny_pure (wpAny_pure (h5 D F' Acc s'' a1 a6 a3))⟩

/-- tuple(l) -/
theorem tupleS {vs : List Value} {l : Addr} {Q : Value → Shared → Prop} (S : St0 c F mu s) (hl : SList F (.ref l) vs) (hz : vs.length ≤ 1000000)
    (h : ∀ a F' s', F.Le F' → St0 c F' mu s' → STup F' (.ref a) vs → Q (.ref a) s') : wpAny (model prog w) A (call (.type "tuple") [.ref l]) Q E s := by
  refine call_tuple_list (hl.isList S.inn) (fun h' hk => ?_) (by rw [List.size_toArray]; unfold sizeLine; omega)
  have S1 : St0 c F mu { s with heap := h' } := S.keep hk rfl rfl
  obtain ⟨le1, S2⟩ := S1.pushF { cls := .type "tuple", data := .seq vs.toArray } rfl
  exact h _ _ _ le1 S2 ⟨_, _, rfl, Fz.put_self _ _ _, rfl, _, rfl⟩
end
end Mine
end

section
/-! W12: law: folders walked. -/
set_option maxRecDepth 100000
set_option maxHeartbeats 4000000
namespace Mine
open PySem PySem.Calls PyProof.Rows PySem.W PySem.Builtin

/-- the folders of the first i rows, of the i-th row those up to sh + j -/
def Fold (R : Nat → List T) (sh i j : Nat) (S : List (List T)) : Prop :=
  ∀ k, k ∈ S ↔ ∃ a mm, sh < mm ∧ mm ≤ (R a).length ∧ k = (R a).take mm ∧ (a < i ∨ (a = i ∧ mm ≤ sh + j))
theorem Fold.step {R : Nat → List T} {sh i j : Nat} {S : List (List T)} (h : Fold R sh i j S) (hl : sh + 1 + j ≤ (R i).length) : Fold R sh i (j + 1) (S ++ [(R i).take (sh + 1 + j)]) := by
  intro k
  rw [List.mem_append, List.mem_singleton, h k]
  constructor
  · rintro (⟨a, mm, b1, b2, b3, b4⟩ | rfl)
    · exact ⟨a, mm, b1, b2, b3, by omega⟩
    · exact ⟨i, sh + 1 + j, by omega, hl, rfl, .inr ⟨rfl, by omega⟩⟩
  · rintro ⟨a, mm, b1, b2, b3, b4⟩
    by_cases hm : a = i ∧ mm = sh + 1 + j
    · obtain ⟨rfl, rfl⟩ := hm
      exact .inr b3
    · exact .inl ⟨a, mm, b1, b2, b3, by omega⟩
theorem Fold.row {R : Nat → List T} {sh i j : Nat} {S : List (List T)} (h : Fold R sh i j S) (hj : (R i).length ≤ sh + j) : Fold R sh (i + 1) 0 S := by
  intro k
  rw [h k]
  constructor
  · rintro ⟨a, mm, b1, b2, b3, b4⟩
    exact ⟨a, mm, b1, b2, b3, by omega⟩
  · rintro ⟨a, mm, b1, b2, b3, b4⟩
    refine ⟨a, mm, b1, b2, b3, ?_⟩
    rcases Nat.lt_or_ge a i with h1 | h1
    · exact .inl h1
    · have : a = i := by omega
      subst this
      exact .inr ⟨rfl, by omega⟩
theorem Fold.folders {R : Nat → List T} {sh n : Nat} {S : List (List T)} (h : Fold R sh n 0 S) {ks : List (List T)} (hn : ks.Nodup) (hm : ∀ k, k ∈ ks ↔ k ∈ S) : Folders n R sh ks := by
  refine ⟨hn, fun k => ?_⟩
  rw [hm k, h k]
  constructor
  · rintro ⟨a, mm, b1, b2, b3, b4⟩
    exact ⟨a, mm, by omega, b1, b2, b3⟩
  · rintro ⟨a, mm, b0, b1, b2, b3⟩
    exact ⟨a, mm, b1, b2, b3, .inl b0⟩
theorem St0.to4 {c : Cx} {F : Fz} {mu : Mu} {s : Shared} {x y z d : Addr × (Obj → Prop)} (S : St0 c F (x :: y :: z :: d :: mu) s) : St0 c F (d :: x :: y :: z :: mu) s := S.perm (List.perm_middle (l₁ := [x, y, z]))
theorem St0.of4 {c : Cx} {F : Fz} {mu : Mu} {s : Shared} {x y z d : Addr × (Obj → Prop)} (S : St0 c F (d :: x :: y :: z :: mu) s) : St0 c F (x :: y :: z :: d :: mu) s := S.perm (List.perm_middle (l₁ := [x, y, z])).symm

section
variable {prog : Program} {w : World} {A : Around} {E : Value → Shared → Prop} {H : Heap} {mg mb : PySem.Str → Option Value} {F : Fz} {m : PySem.Str → Option Value} {mu : Mu} {s s0 : Shared} {env : Env} {a1 a2 a3 a4 a5 a6 a7 : Addr} {F0 : Fz} {Q : Flow → Shared → Prop}

theorem law14 (B : Bs H mg mb) (G : Gl mg) (he : EnvOk env (fScope lawSt)) (hr : Rm A 30) (hc : LCells env a1 a2 a3 a4 a5 a6 a7) {oct r : Bool} {pss rows : List (List T)} {Rw C Pl : Addr} {sh : Nat} {v1 v2 v4 v5 v7 : Option Value} {t0 : Tok}
    (S : St (cx H F0 s0) F env.locals m (lMu a1 a2 a3 a4 a5 a6 a7 v1 v2 (some (.ref Rw)) v4 v5 (some (.int (sh : Nat) t0)) v7) s) (X : LawX F oct r pss rows Rw C Pl) (hsi : SharedIs rows.length (rowAt rows) sh)
    (h : ∀ D F' s' o, F.Le F' → F' D = some o → (∃ ks, setT prog w F' ks o ∧ Fold (rowAt rows) sh rows.length 0 ks) → St (cx H F0 s0) F' env.locals (upd m "folders" (.ref D)) (lMu a1 a2 a3 a4 a5 a6 a7 v1 v2 (some (.ref Rw)) v4 v5 (some (.int (sh : Nat) t0)) v7) s' → Q .next s') :
    wpAny (model prog w) A (exec (lawI 14) env) Q E s := by
  have hh : A.handled = none := hr.hd
  have h6 := X.rowsF.high
  obtain ⟨vs, hvs, hps⟩ := X.rowsF.is
  have hvl : vs.length = rows.length := hps.length.symm
  refine scompA (cl := [(("shared" : PySem.Str), a6)]) he rfl (by rfl) (by rw [hc.e]; rfl) (by rfl) (fun it acc env => compTurn_set2 _ _ _ _ _ _ _ it acc env)
    (fun i F' Acc => ∃ ks : List (List T), (∀ o, Acc o → setT prog w F' ks o) ∧ ks.length ≤ 6 * i ∧ Fold (rowAt rows) sh i 0 ks)
    (ldc' (a := a3) he (by rw [hc.e]; rfl) (S.cell (v := some (.ref Rw)) (by simp [lMu])) ?_)
  refine ⟨_, _, _, _, _, _, S, itList hh hvs, ⟨[], fun o ho => setT_new ho, by simp, fun k => ?_⟩, ?_, ?_⟩
  · constructor
    · intro hk; cases hk
    · rintro ⟨a, mm, b1, b2, b3, b4⟩; omega
  · intro cenv i v I K D m4 F4 Acc s4 heC hcC hi hvi hle4 hJ S4
    obtain ⟨ks, hAcc, hkl, hF⟩ := hJ
    have hi' : i < rows.length := by omega
    obtain ⟨ps, v', hp1, hp2, ws, hws, hwt⟩ := Paired.get hps i hi'
    rw [hvi] at hp2; cases hp2
    rw [rowAt_get hi'] at hp1; cases hp1
    have hwl : ws.length = (rowAt rows i).length := hwt.length.symm
    have h6i := X.six hi'
    have hshi := hsi.len i hi'
    have k6 : cenv.cells.lookup ("shared" : PySem.Str) = some a6 := by rw [hcC]; rfl
    have o6 := S.cell (a := a6) (v := some (.int (sh : Nat) t0)) (by simp [lMu])
    obtain ⟨rl, _, rfl, _, _⟩ := id hws
    refine wpAny_assign_Name (st' S4 heC fun s5 S5 => ?_)
    have S5' : St (cx (cx H F0 s0).base F s) F4 cenv.locals (upd m4 "row" (.ref rl)) [(I, K), (D, setT prog w F4 ks)] s5 := (S5.rot.weak hAcc).rot.rot
    refine inner2 (fun j F' m mu => ∃ ks : List (List T), mu = [(I, K), (D, setT prog w F' ks)] ∧ m "row" = some (.ref rl) ∧ ks.length ≤ 6 * i + j ∧ Fold (rowAt rows) sh i j ks) ?_
    have e1 : (sh : Int) + 1 = ((sh + 1 : Nat) : Int) := by omega
    have e2 : (ws.length : Int) + 1 = ((ws.length + 1 : Nat) : Int) := by omega
    refine cT2 (fun _ h => ldB S5' B G heC h) ?_
    refine wpAny_BinOp (ldc' (a := a6) heC k6 (oldCell S5' o6) (constI S5' fun s6 t6 S6 => addI S6 fun s7 t7 S7 => ?_))
    rw [e1]
    refine wpAny_BinOp ?_
    refine cB1 (fun _ h => ldB S7 B G heC h) (ld' S7 heC rfl (lenS S7 (hws.le hle4) (by omega) fun s8 t8 S8 => constI S8 fun s9 t9 S9 => addI S9 fun s10 t10 S10 => ?_))
    rw [e2]
    refine range2 S10 (by omega) (by omega) fun rg F5 s11 hle5 S11 hit => ?_
    have S11' : St (cx (cx H F0 s0).base F s) F5 cenv.locals (upd m4 "row" (.ref rl)) [(I, K), (D, setT prog w F5 ks)] s11 := (S11.rot.weak fun o ho => setT.mono hle5 ho).rot.rot
    refine ⟨_, _, _, _, _, _, S11', hit _ hh, ⟨ks, rfl, rfl, by omega, hF⟩, ?_, ?_⟩
    · rintro j v I2 K2 m6 F6 mu6 s12 hj ⟨tj, rfl⟩ hle6 ⟨ks6, rfl, hmr, hkl6, hF6⟩ S12
      refine wpAny_assign_Name (st' S12 heC fun s13 S13 => ?_)
      refine cT1 (fun _ h => ldB S13 B G heC h) ?_
      have hle46 := hle4.trans (hle5.trans hle6)
      refine sliceB (ld' S13 heC hmr (evalPart_none_step (evalPart_some_step (ld' S13 heC rfl ⟨_, _, _, ws, none, some (sh + 1 + j), S13, hws.le hle46, by omega, .none, .int _ _, fun ac F7 s14 hle7 S14 hac => ?_⟩))))
      have e3 : cutL ws none (some (sh + 1 + j)) = ws.take (sh + 1 + j) := by simp [cutL]
      rw [e3] at hac
      refine tupleS S14 hac (by rw [List.length_take]; omega) fun ta F8 s15 hle8 S15 hta => ?_
      have S16 := S15.to4.weak fun o ho => setT.mono (hle7.trans hle8) ho
      have hjl : sh + 1 + j ≤ (rowAt rows i).length := by omega
      refine setAddT (by have := (hr.le (by omega : 2 ≤ 30)).units; show _ < 9900; omega) S16 hta (hwt.take (sh + 1 + j)) (by omega) fun s17 S17 => ?_
      refine ⟨_, F8, _, hle7.trans hle8, S17.of4, _, rfl, hmr, ?_, hF6.step hjl⟩
      rw [List.length_append]; simp; omega
    · rintro F6 m6 mu6 s12 hle6 ⟨ks6, rfl, hmr, hkl6, hF6⟩ S12
      exact ⟨_, F6, _, hle5.trans hle6, S12, ks6, fun o ho => ho, by omega, hF6.row (by omega)⟩
  · intro D F4 Acc s4 hle4 S4 hJ
    obtain ⟨ks, hAcc, hkl, hF⟩ := hJ
    rw [hvl] at hF
    obtain ⟨o, ho, hle5, hFD, S5⟩ := (S4.swap.weak hAcc).freeze
    exact h D _ s4 o (hle4.trans hle5) hFD ⟨ks, ho.mono hle5, hF⟩ S5
end
end Mine
end

section
/-! K1: sorting: a decision tree checked. -/
set_option maxRecDepth 100000
set_option maxHeartbeats 4000000
namespace Mine
open PySem PySem.Calls PyProof.Rows PySem.W PySem.Builtin

/-- facts as bits: bit 8 a + b says that a comes before b -/
def knows (fs a b : Nat) : Bool := fs.testBit (8 * a + b)
def learnRow (fs b : Nat) : Nat := (1 <<< b) ||| ((fs >>> (8 * b)) &&& 255)
def learnGo (fs a rb : Nat) : Nat → Nat → Nat
  | 0, acc => acc
  | x + 1, acc => learnGo fs a rb x (if x == a || knows fs x a then acc ||| (rb <<< (8 * x)) else acc)
def learn (n fs a b : Nat) : Nat := learnGo fs a (learnRow fs b) n fs
def sortedBy (fs : Nat) : List Nat → Bool
  | [] => true
  | [_] => true
  | a :: b :: r => knows fs a b && sortedBy fs (b :: r)
def chk (n : Nat) : KasT (Array Nat) → Nat → Bool
  | .ret p, fs => p.toList.isPerm (List.range n) && sortedBy fs p.toList
  | .ask i j k, fs => decide (i < n) && decide (j < n) && (i != j) && (if knows fs i j then chk n (k true) fs else if knows fs j i then chk n (k false) fs else chk n (k true) (learn n fs i j) && chk n (k false) (learn n fs j i))
theorem chk2 : chk 2 (kas_sort 2) 0 = true := by decide +kernel
theorem chk3 : chk 3 (kas_sort 3) 0 = true := by decide +kernel
theorem chk4 : chk 4 (kas_sort 4) 0 = true := by decide +kernel
theorem chk5 : chk 5 (kas_sort 5) 0 = true := by decide +kernel
theorem chk6 : chk 6 (kas_sort 6) 0 = true := by decide +kernel
end Mine
end

section
/-! K2: sorting: the tree's soundness, the comparison of (row, int) tuples. -/
set_option maxRecDepth 100000
set_option maxHeartbeats 4000000
namespace Mine
open PySem PySem.Calls PyProof.Rows PySem.W PySem.Builtin

structure StrictOn (n : Nat) (lt : Nat → Nat → Bool) : Prop where
  trans : ∀ a b c, lt a b = true → lt b c = true → lt a c = true
  total : ∀ i j, i < n → j < n → i ≠ j → lt i j = false → lt j i = true
  asymm : ∀ i j, lt i j = true → lt j i = false
def Holds (n : Nat) (lt : Nat → Nat → Bool) (fs : Nat) : Prop := ∀ a b, a < n → b < n → knows fs a b = true → lt a b = true

theorem learnRow_bit {fs b d : Nat} (hd : d < 8) : (learnRow fs b).testBit d = (decide (b = d) || knows fs b d) := by
  unfold learnRow knows
  rw [Nat.testBit_or, Nat.testBit_and, Nat.testBit_shiftRight, show (255 : Nat) = 2 ^ 8 - 1 by decide, Nat.testBit_two_pow_sub_one, decide_eq_true hd, Bool.and_true, Nat.one_shiftLeft, Nat.testBit_two_pow]
theorem learnRow_lt {fs b : Nat} (hb : b < 8) : learnRow fs b < 2 ^ 8 := by
  unfold learnRow
  apply Nat.or_lt_two_pow
  · rw [Nat.one_shiftLeft]; exact Nat.pow_lt_pow_right (by decide) hb
  · exact Nat.lt_of_le_of_lt Nat.and_le_right (by decide)
theorem learnGo_bit {fs a rb : Nat} (hrb : rb < 2 ^ 8) : ∀ (n acc c d : Nat), d < 8 → knows (learnGo fs a rb n acc) c d = true → knows acc c d = true ∨ ((c = a ∨ knows fs c a = true) ∧ rb.testBit d = true)
  | 0, acc, c, d, _, h => .inl h
  | x + 1, acc, c, d, hd, h => by
    rcases learnGo_bit hrb x _ c d hd h with h1 | h1
    · by_cases hx : (x == a || knows fs x a) = true
      · rw [if_pos hx] at h1
        unfold knows at h1
        rw [Nat.testBit_or, Bool.or_eq_true] at h1
        rcases h1 with h1 | h1
        · exact .inl h1
        · rw [Nat.testBit_shiftLeft, Bool.and_eq_true, decide_eq_true_eq] at h1
          obtain ⟨h2, h3⟩ := h1
          have h4 : 8 * c + d - 8 * x < 8 := by
            rcases Nat.lt_or_ge (8 * c + d - 8 * x) 8 with h | h
            · exact h
            · rw [Nat.testBit_lt_two_pow (Nat.lt_of_lt_of_le hrb (Nat.pow_le_pow_right (by decide) h))] at h3; cases h3
          have hcx : c = x := by omega
          subst hcx
          refine .inr ⟨?_, ?_⟩
          · rw [Bool.or_eq_true, beq_iff_eq] at hx; exact hx
          · rw [show 8 * c + d - 8 * c = d by omega] at h3; exact h3
      · rw [if_neg hx] at h1
        exact .inl h1
    · exact .inr h1
theorem Holds.learn {n : Nat} {lt : Nat → Nat → Bool} {fs a b : Nat} (O : StrictOn n lt) (h : Holds n lt fs) (hn : n ≤ 8) (ha : a < n) (hb : b < n) (hab : lt a b = true) : Holds n lt (learn n fs a b) := by
  intro c d hc hd hk
  rcases learnGo_bit (learnRow_lt (by omega)) n fs c d (by omega) hk with h1 | ⟨h1, h2⟩
  · exact h c d hc hd h1
  · rw [learnRow_bit (by omega), Bool.or_eq_true, decide_eq_true_eq] at h2
    have h3 : lt c b = true := by
      rcases h1 with rfl | h1
      · exact hab
      · exact O.trans _ _ _ (h c a hc ha h1) hab
    rcases h2 with rfl | h2
    · exact h3
    · exact O.trans _ _ _ h3 (h b d hb hd h2)
theorem sorted_pw {n : Nat} {lt : Nat → Nat → Bool} {fs : Nat} (O : StrictOn n lt) (h : Holds n lt fs) : ∀ (l : List Nat), (∀ x ∈ l, x < n) → sortedBy fs l = true → l.Pairwise fun a b => lt a b = true
  | [], _, _ => List.Pairwise.nil
  | [a], _, _ => List.pairwise_singleton _ _
  | a :: b :: r, hl, hs => by
    rw [sortedBy, Bool.and_eq_true] at hs
    have ih := sorted_pw O h (b :: r) (fun x hx => hl x (.tail _ hx)) hs.2
    have hab := h a b (hl a (by simp)) (hl b (by simp)) hs.1
    refine List.pairwise_cons.mpr ⟨fun x hx => ?_, ih⟩
    rcases List.mem_cons.mp hx with rfl | hx
    · exact hab
    · exact O.trans _ _ _ hab ((List.pairwise_cons.mp ih).1 x hx)
theorem chk_sound {n : Nat} {lt : Nat → Nat → Bool} (O : StrictOn n lt) (hn : n ≤ 8) {cmp : Nat → Nat → (Bool → Shared → Prop) → Shared → Prop} {Q : Array Nat → Shared → Prop} {s : Shared}
    (hcmp : ∀ (i j : Nat) (C : Bool → Shared → Prop), i < n → j < n → i ≠ j → C (lt i j) s → cmp i j C s) (hQ : ∀ p : Array Nat, p.toList.Perm (List.range n) → p.toList.Pairwise (fun a b => lt a b = true) → Q p s) :
    ∀ (t : KasT (Array Nat)) (fs : Nat), Holds n lt fs → chk n t fs = true → t.kasWp cmp Q s
  | .ret p, fs, h, hc => by
    rw [chk, Bool.and_eq_true, List.isPerm_iff] at hc
    exact hQ p hc.1 (sorted_pw O h _ (fun x hx => List.mem_range.mp (hc.1.mem_iff.mp hx)) hc.2)
  | .ask i j k, fs, h, hc => by
    rw [chk, Bool.and_eq_true, Bool.and_eq_true, Bool.and_eq_true, decide_eq_true_eq, decide_eq_true_eq, bne_iff_ne] at hc
    obtain ⟨⟨⟨hi, hj⟩, hij⟩, hc⟩ := hc
    show cmp i j (fun b s' => (k b).kasWp cmp Q s') s
    refine hcmp i j _ hi hj hij ?_
    by_cases h1 : knows fs i j = true
    · rw [if_pos h1] at hc
      rw [h i j hi hj h1]
      exact chk_sound O hn hcmp hQ (k true) fs h hc
    · rw [if_neg h1] at hc
      by_cases h2 : knows fs j i = true
      · rw [if_pos h2] at hc
        rw [O.asymm _ _ (h j i hj hi h2)]
        exact chk_sound O hn hcmp hQ (k false) fs h hc
      · rw [if_neg h2, Bool.and_eq_true] at hc
        cases hl : lt i j with
        | true => exact chk_sound O hn hcmp hQ (k true) _ (h.learn O hn hi hj hl) hc.1
        | false => exact chk_sound O hn hcmp hQ (k false) _ (h.learn O hn hj hi (O.total i j hi hj hij hl)) hc.2
theorem chk_all {n : Nat} (h1 : 2 ≤ n) (h2 : n ≤ 6) : chk n (kas_sort n) 0 = true := by
  have : n = 2 ∨ n = 3 ∨ n = 4 ∨ n = 5 ∨ n = 6 := by omega
  rcases this with rfl | rfl | rfl | rfl | rfl
  · exact chk2
  · exact chk3
  · exact chk4
  · exact chk5
  · exact chk6
theorem holds0 (n : Nat) (lt : Nat → Nat → Bool) : Holds n lt 0 := fun a b _ _ h => by unfold knows at h; simp at h

/-- rows, then places -/
def rowLt (R : Nat → List T) (i j : Nat) : Bool := if R i = R j then decide (i < j) else lexL (R i) (R j)
theorem lexL_trans : ∀ (a b c : List T), lexL a b = true → lexL b c = true → lexL a c = true
  | [], b, [], h1, h2 => by cases b <;> simp [lexL] at h1 h2
  | [], _, _ :: _, _, _ => rfl
  | _ :: _, [], _, h1, _ => by cases h1
  | _ :: _, _ :: _, [], _, h2 => by cases h2
  | x :: a, y :: b, z :: c, h1, h2 => by
    unfold lexL at h1 h2 ⊢
    by_cases e1 : x = y
    · subst e1
      rw [if_pos rfl] at h1
      by_cases e2 : x = z
      · subst e2
        rw [if_pos rfl] at h2 ⊢
        exact lexL_trans a b c h1 h2
      · rw [if_neg e2] at h2 ⊢; exact h2
    · rw [if_neg e1] at h1
      by_cases e2 : y = z
      · subst e2
        rw [if_neg e1]; exact h1
      · rw [if_neg e2] at h2
        have h3 := of_decide_eq_true h1
        have h4 := of_decide_eq_true h2
        have h5 : x < z := List.lt_trans h3 h4
        have e3 : x ≠ z := fun e => T_lt_irrefl x (e ▸ h5)
        rw [if_neg e3]
        exact decide_eq_true h5
theorem rowLt_strict (n : Nat) (R : Nat → List T) : StrictOn n (rowLt R) := by
  refine ⟨fun a b c h1 h2 => ?_, fun i j _ _ hij h => ?_, fun i j h => ?_⟩
  · unfold rowLt at h1 h2 ⊢
    by_cases e1 : R a = R b
    · rw [if_pos e1] at h1
      by_cases e2 : R b = R c
      · rw [if_pos e2] at h2
        rw [if_pos (e1.trans e2)]
        exact decide_eq_true (Nat.lt_trans (of_decide_eq_true h1) (of_decide_eq_true h2))
      · rw [if_neg e2] at h2
        rw [if_neg (e1 ▸ e2), e1]; exact h2
    · rw [if_neg e1] at h1
      by_cases e2 : R b = R c
      · rw [if_neg (e2 ▸ e1), ← e2]; exact h1
      · rw [if_neg e2] at h2
        have h3 := lexL_trans _ _ _ h1 h2
        have e3 : R a ≠ R c := fun e => by rw [e, lexL_irrefl] at h3; cases h3
        rw [if_neg e3]; exact h3
  · unfold rowLt at h ⊢
    by_cases e : R i = R j
    · rw [if_pos e] at h
      rw [if_pos e.symm]
      have := of_decide_eq_false h
      exact decide_eq_true (by omega)
    · rw [if_neg e] at h
      rw [if_neg fun q => e q.symm]
      cases h2 : lexL (R j) (R i) with
      | true => rfl
      | false => exact absurd (lexL_total _ _ h h2) e
  · unfold rowLt at h ⊢
    by_cases e : R i = R j
    · rw [if_pos e] at h
      rw [if_pos e.symm]
      have := of_decide_eq_true h
      exact decide_eq_false (by omega)
    · rw [if_neg e] at h
      rw [if_neg fun q => e q.symm]
      exact lexL_asymm _ _ h
theorem rowLt_le {R : Nat → List T} {i j : Nat} (h : rowLt R i j = true) : lexLe R i j := by
  unfold rowLt at h
  unfold lexLe
  by_cases e : R i = R j
  · rw [e]; exact lexL_irrefl _
  · rw [if_neg e] at h; exact lexL_asymm _ _ h
end Mine
end

section
/-! K3: sorted of (row, int) tuples. -/
set_option maxRecDepth 100000
set_option maxHeartbeats 4000000
namespace Mine
open PySem PySem.Calls PyProof.Rows PySem.W PySem.Builtin

theorem tx_inj {oct : Bool} {a b : T} {t u : Tok} (ha : Byt a) (hb : Byt b) (h : tx oct a t = tx oct b u) : a = b := by
  cases oct with
  | false => exact us_inj.mp (by injection h)
  | true => exact (ub_inj ha hb).mp (by injection h)
theorem TxL.uniq {oct : Bool} : ∀ {ps qs : List T} {vs : List Value}, TxL oct ps vs → TxL oct qs vs → (∀ p ∈ ps, Byt p) → (∀ p ∈ qs, Byt p) → ps = qs
  | _, _, _, .nil, .nil, _, _ => rfl
  | _, _, _, .cons (a := p) ⟨t, e⟩ r, .cons (a := q) ⟨u, e'⟩ r', h1, h2 => by
    have e1 : p = q := tx_inj (h1 p List.mem_cons_self) (h2 q List.mem_cons_self) (e.symm.trans e')
    rw [e1, TxL.uniq r r' (fun x hx => h1 x (.tail _ hx)) fun x hx => h2 x (.tail _ hx)]

section
variable {prog : Program} {w : World} {A : Around} {E : Value → Shared → Prop} {F : Fz} {mu : Mu} {s : Shared} {c : Cx} {L : Addr} {m : PySem.Str → Option Value}

/-- lists of texts, equal -/
theorem eqListsAt {oct : Bool} {l b : Addr} {ps qs : List T} {vs ws : List Value} (S : St0 c F mu s) (hl : SList F (.ref l) vs) (hl2 : SList F (.ref b) ws) (hv : TxL oct ps vs) (hw : TxL oct qs ws) (hb : ∀ p ∈ ps, Byt p) (hb2 : ∀ p ∈ qs, Byt p) (hu : A.units < cLine) :
    SeqAt.EqAt A s (.ref l) (.ref b) (decide (ps = qs)) := by
  have e1 : vs.length = ps.length := hv.length.symm
  have e2 : ws.length = qs.length := hw.length.symm
  by_cases hlb : l = b
  · subst hlb
    have hvw : vs = ws := by
      obtain ⟨a, o, ea, ho, _, _, n, hd⟩ := hl
      obtain ⟨a', o', ea', ho', _, _, n', hd'⟩ := hl2
      cases ea; cases ea'
      rw [ho] at ho'; cases ho'
      rw [hd] at hd'
      injection hd' with h1 h2
      simpa using h1
    subst hvw
    rw [decide_eq_true (hv.uniq hw hb hb2)]
    exact SeqAt.EqAt.same _
  · refine SeqAt.EqAt.of_refs hlb ?_
    by_cases hlen : ps.length = qs.length
    · have key := SeqAt.RcAt.lists (A := A) (s := s) (e := fun j => decide (ps.getD j [] = qs.getD j [])) (hl.isList S.inn) (hl2.isList S.inn) (by simp; omega) hu (fun j h1 h2 => by
        have hj1 : j < ps.length := by simp at h1; omega
        have hj2 : j < qs.length := by simp at h2; omega
        obtain ⟨p, t, hp, hvp⟩ := hv.get j hj1
        obtain ⟨q, u, hq, hwq⟩ := hw.get j hj2
        have x1 : vs.toArray[j] = tx oct p t := by
          have : vs.toArray[j]? = some (tx oct p t) := by simpa using hvp
          rw [Array.getElem?_eq_getElem h1] at this; exact Option.some.inj this
        have x2 : ws.toArray[j] = tx oct q u := by
          have : ws.toArray[j]? = some (tx oct q u) := by simpa using hwq
          rw [Array.getElem?_eq_getElem h2] at this; exact Option.some.inj this
        rw [x1, x2, List.getD_eq_getElem?_getD, List.getD_eq_getElem?_getD, hp, hq]
        exact eqAt (hb p (List.mem_of_getElem? hp)) (hb2 q (List.mem_of_getElem? hq)))
      have e : ((List.range vs.toArray.size).all fun j => decide (ps.getD j [] = qs.getD j [])) = decide (ps = qs) := by
        rw [Bool.eq_iff_iff, decide_eq_true_eq, List.all_eq_true]
        constructor
        · intro hall
          apply List.ext_getElem?
          intro j
          by_cases hj : j < ps.length
          · have := hall j (List.mem_range.mpr (by simp; omega))
            rw [decide_eq_true_eq, List.getD_eq_getElem?_getD, List.getD_eq_getElem?_getD] at this
            rw [List.getElem?_eq_getElem hj, List.getElem?_eq_getElem (show j < qs.length by omega)] at this ⊢
            simpa using this
          · rw [List.getElem?_eq_none (by omega), List.getElem?_eq_none (by omega)]
        · rintro rfl j _; simp
      rw [e] at key
      exact key
    · rw [decide_eq_false (show ps ≠ qs from fun e => hlen (by rw [e]))]
      exact SeqAt.RcAt.lists_lengths (hl.isList S.inn) (hl2.isList S.inn) (by simp; omega) hu

/-- x < y, both lists, as sorted asks when all keys are of one type -/
theorem oneLtL {l b : Addr} {ps qs : List T} {vs ws : List Value} {Q : Bool → Shared → Prop} (S : St0 c F mu s) (hl : SList F (.ref l) vs) (hl2 : SList F (.ref b) ws) (hv : TxL false ps vs) (hw : TxL false qs ws) (hb : ∀ p ∈ ps, Byt p) (hb2 : ∀ p ∈ qs, Byt p) (hu : A.units < cLine)
    (h : Q (lexL ps qs) s) : wpAny (model prog w) A (oneLt' true (.ref l) (.ref b)) Q E s := by
  have hlb := hl.isList S.inn
  have hbb := hl2.isList S.inn
  obtain ⟨⟨cls, dd, data, sl⟩, ho, hc, n, hd⟩ := id hlb
  obtain ⟨⟨cls2, dd2, data2, sl2⟩, ho2, hc2, n2, hd2⟩ := id hbb
  simp only at hc hd hc2 hd2
  subst hc hd hc2 hd2
  have g := list_cmpAt false false l b ps qs vs ws n n2 dd dd2 sl sl2 hv hw hb hb2
  rw [oneLt'_eq]
  simp only [if_true]
  refine wpAny_bind (wpAny_cRoomFor hu ?_)
  refine wpAny_bind (wpAny_callSpecialIfBound?_slot ⟨_, ho, rfl⟩ PySem.F.slot_list_lt (call_meets PySem.F.slot_list_lt ⟨_, ho, rfl⟩ PySem.F.entry_list_lt (PySem.F.args_list_lt_2 _ _) g ⟨ho, ho2, ?_⟩))
  exact wpAny_truthy_bool h

/-- rows and places, as sorted gets them -/
structure RowTups (F : Fz) (R : Nat → List T) (n : Nat) (ys : List Value) : Prop where
  len : ys.length = n
  at' : ∀ i, i < n → ∃ a b ws t, ys[i]? = some (.ref a) ∧ STup F (.ref a) [.ref b, .int (i : Nat) t] ∧ SList F (.ref b) ws ∧ TxL false (R i) ws ∧ ∀ p ∈ R i, Byt p

theorem firsts {h : Heap} (i : F.In h) : ∀ (ys : List Value), (∀ y ∈ ys, ∃ a b v ws, y = .ref a ∧ STup F (.ref a) [.ref b, v] ∧ SList F (.ref b) ws) → ∃ fs : List Value, fs.length = ys.length ∧ KatTups h ys fs ∧ ∀ v ∈ fs, ∃ b ob, v = .ref b ∧ h.get? b = some ob ∧ ob.cls = .type "list"
  | [], _ => ⟨[], rfl, KatTups.nil, fun _ hv => nomatch hv⟩
  | y :: ys, hy => by
    obtain ⟨fs, e1, e2, e3⟩ := firsts i ys fun z hz => hy z (.tail _ hz)
    obtain ⟨a, b, v, ws, rfl, ⟨a', o, ea, ho, hc, n, hd⟩, ⟨b', ob, eb, hob, hcb, _⟩⟩ := hy y List.mem_cons_self
    cases ea; cases eb
    refine ⟨.ref b :: fs, by simp [e1], KatTups.cons (i _ _ ho) hc hd rfl e2, fun v hv => ?_⟩
    rcases List.mem_cons.mp hv with rfl | hv
    · exact ⟨b, ob, rfl, i _ _ hob, hcb⟩
    · exact e3 v hv

theorem sortedS {l : Addr} {ys : List Value} {n : Nat} {R : Nat → List T} {Q : Value → Shared → Prop} (hu : A.units + 10 < cLine) (S : St c F L m mu s) (hl : SList F (.ref l) ys) (X : RowTups F R n ys) (h2 : 2 ≤ n) (h6 : n ≤ 6)
    (h : ∀ D F' s' (p : List Nat), F.Le F' → St c F' L m mu s' → p.Perm (List.range n) → p.Pairwise (fun a b => rowLt R a b = true) → SList F' (.ref D) (p.map fun i => ys.getD i .none) → Q (.ref D) s') :
    wpAny (model prog w) A (call (.builtin "sorted") [.ref l]) Q E s := by
  obtain ⟨news, F0, N0, back⟩ := adapt S
  have hlen := X.len
  refine kat_sorted F0 N0 (hl.isList S.inn) (by omega) (by omega) fun D e1 h' F' N' hlt => ?_
  obtain ⟨K', S'⟩ := back h' m s.toks F' fun p hp => N' p (.tail _ hp)
  obtain ⟨fs, f1, f2, f3⟩ := firsts S'.inn ys fun y hy => by
    obtain ⟨i, hi, e⟩ := List.mem_iff_getElem.mp hy
    obtain ⟨a, b, ws, t, y1, y2, y3, _⟩ := X.at' i (by omega)
    rw [List.getElem?_eq_getElem hi, e] at y1
    exact ⟨a, b, _, ws, Option.some.inj y1, y2, y3⟩
  refine kat_kind (fs := fs) (T := .type "list") f2 (by omega) (fun v hv => ?_) (beq_self_eq_true _) ?_
  · obtain ⟨b, ob, rfl, hb, hc⟩ := f3 v hv
    rw [← hc]
    exact (Looks.ld hb).andThen .now
  · rw [show (Value.type "list" != Value.type "tuple") = true by decide, hlen]
    refine chk_sound (lt := rowLt R) (rowLt_strict n R) (by omega) (fun i j C hi hj hij hC => ?_) (fun p hp hpw => ?_) (kas_sort n) 0 (holds0 _ _) (chk_all h2 h6)
    · obtain ⟨ai, bi, wi, ti, y1, ⟨_, oi, ei, hoi, hci, ni, hdi⟩, y3, y4, y5⟩ := X.at' i hi
      obtain ⟨aj, bj, wj, tj, z1, ⟨_, oj, ej, hoj, hcj, nj, hdj⟩, z3, z4, z5⟩ := X.at' j hj
      cases ei; cases ej
      unfold kas_ask
      rw [List.getD_eq_getElem?_getD, List.getD_eq_getElem?_getD, y1, z1]
      refine kat_lt (S'.inn _ _ hoi) hdi (S'.inn _ _ hoj) hdj ?_
      refine kat_cons ?_
      have hu2 : A.in1.in1.units < cLine := by simp only [Around.in1_units]; omega
      refine eqListsAt S' y3 z3 y4 z4 y5 z5 hu2 prog w _ _ ?_
      by_cases e : R i = R j
      · rw [decide_eq_true e]
        refine kat_yes (kat_cons (wpAny_eqBool_int ?_))
        rw [beq_eq_false_iff_ne.mpr (show (i : Int) ≠ (j : Int) by omega)]
        refine kat_no ?_
        refine kat_one _ _ (P.lt_int ?_)
        unfold rowLt at hC
        rw [if_pos e] at hC
        have e3 : decide ((i : Int) < (j : Int)) = decide (i < j) := by rw [Bool.eq_iff_iff]; simp
        rw [e3]; exact hC
      · rw [decide_eq_false e]
        refine kat_no ?_
        refine oneLtL S' y3 z3 y4 z4 y5 z5 hu2 ?_
        unfold rowLt at hC
        rw [if_neg e] at hC
        exact hC
    · refine KasFin.intro F' N' (UpdF.head fun q hq => Nat.ne_of_lt (hlt q hq)) fun h'' c2 F'' N'' => ?_
      obtain ⟨K'', S''⟩ := back h'' m s.toks F'' fun p hp => N'' p (.tail _ hp)
      have d1 := N' _ List.mem_cons_self
      have d2 := N'' _ List.mem_cons_self
      have hDL : D ≠ L := d1.2.1
      have hfree : s.heap.get? D = none := by
        cases hg : s.heap.get? D with
        | none => rfl
        | some o =>
          exfalso
          have g1 := K' D o hDL hg
          have g2 := K'' D o hDL hg
          have g3 := d1.1.symm.trans g1
          have g4 := d2.1.symm.trans g2
          have g5 := g3.trans g4.symm
          have g6 := congrArg Obj.data (Option.some.inj g5)
          injection g6 with g7 g8
          have g9 := congrArg Array.size g7
          have g10 := hp.length_eq
          simp at g9 g10
          omega
      obtain ⟨x1, x2, x3⟩ := S.fresh_ne hfree
      have S3 : St0 c F ((D, lst (p.toList.map fun i => ys.getD i .none)) :: (L, nsIs m) :: mu) { s with heap := h'' } := St0.cons S'' x1 x2 x3 ⟨_, d2.1, rfl, rfl, _, rfl⟩
      obtain ⟨o, ho, hle, hF, S4⟩ := S3.freeze
      exact h D _ _ p.toList hle S4 hp hpw ⟨D, o, rfl, hF, ho⟩
end
end Mine
end

section
/-! W13: law: order. -/
set_option maxRecDepth 100000
set_option maxHeartbeats 4000000
namespace Mine
open PySem PySem.Calls PyProof.Rows PySem.W PySem.Builtin

theorem RowTups.le {F F' : Fz} {R : Nat → List T} {n : Nat} {ys : List Value} (X : RowTups F R n ys) (l : F.Le F') : RowTups F' R n ys := by
  refine ⟨X.len, fun i hi => ?_⟩
  obtain ⟨a, b, ws, t, h1, h2, h3, h4⟩ := X.at' i hi
  exact ⟨a, b, ws, t, h1, stup_le l h2, h3.le l, h4⟩
theorem RowTups.snoc {F : Fz} {R : Nat → List T} {n : Nat} {ys : List Value} (X : RowTups F R n ys) {a b : Addr} {ws : List Value} {t : Tok} (h1 : STup F (.ref a) [.ref b, .int (n : Nat) t]) (h2 : SList F (.ref b) ws) (h3 : TxL false (R n) ws) (h4 : ∀ p ∈ R n, Byt p) :
    RowTups F R (n + 1) (ys ++ [.ref a]) := by
  refine ⟨by simp [X.len], fun i hi => ?_⟩
  by_cases hin : i = n
  · subst hin
    exact ⟨a, b, ws, t, by rw [List.getElem?_append_right (by rw [X.len]; omega), X.len, Nat.sub_self]; rfl, h1, h2, h3, h4⟩
  · obtain ⟨a', b', ws', t', g1, g2⟩ := X.at' i (by omega)
    exact ⟨a', b', ws', t', by rw [List.getElem?_append_left (by rw [X.len]; omega)]; exact g1, g2⟩

/-- the places in the order of their rows -/
structure OrderIs (R : Nat → List T) (n : Nat) (p : List Nat) : Prop where
  perm : p.Perm (List.range n)
  sorted : p.Pairwise fun a b => rowLt R a b = true
theorem OrderIs.uniq {R : Nat → List T} {n : Nat} {p q : List Nat} (h : OrderIs R n p) (h' : OrderIs R n q) : p = q := by
  refine List.Perm.eq_of_pairwise (fun a b _ _ h1 h2 => ?_) h.sorted h'.sorted (h.perm.trans h'.perm.symm)
  rw [(rowLt_strict n R).asymm _ _ h1] at h2; cases h2
theorem OrderIs.le {R : Nat → List T} {n : Nat} {p : List Nat} (h : OrderIs R n p) : p.Pairwise (lexLe R) := h.sorted.imp fun h => rowLt_le h
theorem OrderIs.mem {R : Nat → List T} {n : Nat} {p : List Nat} (h : OrderIs R n p) (i : Nat) : i ∈ p ↔ i < n := by rw [h.perm.mem_iff, List.mem_range]
theorem OrderIs.len {R : Nat → List T} {n : Nat} {p : List Nat} (h : OrderIs R n p) : p.length = n := by rw [h.perm.length_eq, List.length_range]

section
variable {prog : Program} {w : World} {A : Around} {E : Value → Shared → Prop} {H : Heap} {mg mb : PySem.Str → Option Value} {F : Fz} {m : PySem.Str → Option Value} {mu : Mu} {s s0 : Shared} {env : Env} {a1 a2 a3 a4 a5 a6 a7 : Addr} {F0 : Fz} {Q : Flow → Shared → Prop} {c : Cx}

/-- a, b = t, t a tuple that stands still -/
theorem asgPair {a : Addr} {v1 v2 : Value} {e1 e2 : Expr} {k : Nat} {p : Pos} {Q : Unit → Shared → Prop} (hh : A.handled = none) (S : St0 c F mu s) (ht : STup F (.ref a) [v1, v2])
    (h : ∀ s', St0 c F mu s' → wpAny (model prog w) A (assign e1 env v1) (fun _ s₂ => wpAny (model prog w) A (assign e2 env v2) (fun _ => Q ()) E s₂) E s')
    (hs : assignEach [e1, e2] env = [(false, assign e1 env), (false, assign e2 env)] := by rfl) :
    wpAny (model prog w) A (assign (.Tuple [e1, e2] k p) env (.ref a)) Q E s := by
  refine wpAny_assign_Tuple hh (ht.isTup S.inn) (by rw [hs]; rfl) (by rw [hs]; rfl) fun h' hx => ?_
  rw [hs]
  exact assign2 (h _ (S.keep (s' := { s with heap := h' }) (fun b o e => hx b o (Nat.ne_of_lt (Heap.lt_size e)) e) rfl rfl))

theorem law15 (B : Bs H mg mb) (G : Gl mg) (he : EnvOk env (fScope lawSt)) (hr : Rm A 30) (hc : LCells env a1 a2 a3 a4 a5 a6 a7) {oct r : Bool} {pss rows : List (List T)} {Rw C Pl : Addr} {v1 v2 v5 v6 v7 : Option Value} {tn : Tok}
    (S : St (cx H F0 s0) F env.locals m (lMu a1 a2 a3 a4 a5 a6 a7 v1 v2 (some (.ref Rw)) (some (.int rows.length tn)) v5 v6 v7) s) (X : LawX F oct r pss rows Rw C Pl)
    (h : ∀ D F' s' (p : List Nat) vs, F.Le F' → OrderIs (rowAt rows) rows.length p → SList F' (.ref D) vs → NatsAre p vs → St (cx H F0 s0) F' env.locals m (lMu a1 a2 a3 a4 a5 a6 a7 v1 v2 (some (.ref Rw)) (some (.int rows.length tn)) v5 v6 (some (.ref D))) s' → Q .next s') :
    wpAny (model prog w) A (exec (lawI 15) env) Q E s := by
  have hh : A.handled = none := hr.hd
  have h6 := X.rowsF.high
  have h2 := X.rowsF.low
  refine asgPlain he rfl (by rfl) ?_
  -- the pieces: the sorted list first
  refine wpAny_mono (Q := fun v s' => ∃ D F' p vs, v = .ref D ∧ F.Le F' ∧ OrderIs (rowAt rows) rows.length p ∧ SList F' (.ref D) vs ∧ NatsAre p vs ∧ St (cx H F0 s0) F' env.locals m (lMu a1 a2 a3 a4 a5 a6 a7 v1 v2 (some (.ref Rw)) (some (.int rows.length tn)) v5 v6 v7) s') ?_ (fun v s' hq => ?_) fun _ _ e => e
  · refine lcomp (cl := []) hh he (by rfl) (by rfl) (fun i F ys => ∃ p : List Nat, OrderIs (rowAt rows) rows.length p ∧ NatsAre (p.take i) ys) (fun _ _ _ _ _ h => h) ?_
    refine cB1 (fun _ h => ldB S B G he h) ?_
    obtain ⟨rvs, hrvs, hps⟩ := X.rowsF.is
    have hrl : rvs.length = rows.length := hps.length.symm
    -- [(rows[k], k) for k in range(count)]
    refine lcomp (cl := [(("rows" : PySem.Str), a3)]) hh he (by rw [hc.e]; rfl) (by rfl) (fun i F ys => RowTups F (rowAt rows) i ys) (fun _ _ _ _ l h => h.le l) ?_
    refine cT1 (fun _ h => ldB S B G he h) (ldc' (a := a4) he (by rw [hc.e]; rfl) (S.cell (v := some (.int rows.length tn)) (by simp [lMu])) (range1 S (by omega) fun rg F1 s1 hle1 S1 hit1 => ?_))
    refine ⟨_, _, _, _, _, S1, hit1 _ hh, by omega, ⟨rfl, fun i hi => absurd hi (Nat.not_lt_zero _)⟩, ?_, ?_⟩
    · rintro cenv i v I K D m2 F2 ys s2 heC hcC hi ⟨tv, rfl⟩ hle2 hJ hys S2
      refine wpAny_assign_Name (st' S2 heC fun s3 S3 => wpAny_tests_nil ?_)
      rw [if_pos rfl]
      obtain ⟨ps, v', hp1, hp2, ws, hws, hwt⟩ := Paired.get hps i hi
      rw [rowAt_get hi] at hp1; cases hp1
      obtain ⟨b, _, rfl, _, _⟩ := id hws
      have k3 : cenv.cells.lookup ("rows" : PySem.Str) = some a3 := by rw [hcC]; rfl
      have o3 := S1.cell (a := a3) (v := some (.ref Rw)) (by simp [lMu])
      refine Tuple_ ?_
      refine args_cons (subS (ldc' (a := a3) heC k3 (oldCell S3 o3) (ld' S3 heC rfl ⟨_, _, _, _, _, i, tv, S3, hrvs.le (hle1.trans hle2), rfl, by omega, hp2, ?_⟩)))
      refine args_cons (ld' S3 heC rfl ?_)
      refine args_nil (newTupleS S3 (by simp) fun ta F3 s4 hle3 S4 _ hta => ⟨_, F3, hle3, S4, ?_⟩)
      exact (hJ.le hle3).snoc hta (hws.le (hle1.trans (hle2.trans hle3))) hwt fun p hp => (X.good hi p hp).1.byt
    · intro D F2 ys s2 hle2 S2 hD hJ hlen
      -- sorted(..)
      refine sortedS (by have := (hr.le (by omega : 10 ≤ 30)).units; show _ < 9900; omega) S2 hD hJ h2 h6 fun D2 F3 s3 p0 hle3 S3 hp0 hpw0 hD2 => ?_
      have hO : OrderIs (rowAt rows) rows.length p0 := ⟨hp0, hpw0⟩
      have hJ3 := hJ.le hle3
      refine ⟨_, F3, _, (p0.map fun i => ys.getD i .none).length, _, S3, itList hh hD2, by rw [List.length_map, hO.len]; omega, ⟨p0, hO, .nil⟩, ?_, ?_⟩
      · rintro cenv i v I K D3 m4 F4 ys4 s4 heC hcC hi hvi hle4 ⟨p, hOp, hN⟩ hys4 S4
        have : p = p0 := hOp.uniq hO
        subst this
        have hip : i < p.length := by simpa using hi
        have hpi : p[i]? = some p[i] := List.getElem?_eq_getElem hip
        have hpn : p[i] < rows.length := (hO.mem _).mp (List.getElem_mem hip)
        obtain ⟨a, b, ws, t, g1, g2, g3, g4, g5⟩ := hJ3.at' p[i] hpn
        have hv : v = .ref a := by
          rw [List.getElem?_map, hpi] at hvi
          simp only [Option.map_some, Option.some.injEq] at hvi
          rw [List.getD_eq_getElem?_getD, g1] at hvi
          exact hvi.symm
        subst hv
        refine asgPair hh S4 (stup_le hle4 g2) fun s5 S5 => ?_
        refine wpAny_assign_Name (st' S5 heC fun s6 S6 => ?_)
        refine wpAny_assign_Name (st' S6 heC fun s7 S7 => wpAny_tests_nil ?_)
        rw [if_pos rfl]
        refine ld' S7 heC rfl ⟨_, F4, .refl _, S7, p, hOp, ?_⟩
        rw [take_snoc hpi]
        exact hN.snoc ⟨t, rfl⟩
      · rintro D3 F4 ys4 s4 hle4 S4 hD3 ⟨p, hOp, hN⟩ hlen4
        have : p = p0 := hOp.uniq hO
        subst this
        rw [List.take_of_length_le (by simp)] at hN
        exact ⟨D3, F4, p, ys4, rfl, (hle1.trans hle2).trans (hle3.trans hle4), hO, hD3, hN, S4⟩
  · obtain ⟨D, F', p, vs, rfl, hle, hp, hD, hN, S'⟩ := hq
    exact stcI 0 S' rfl he (by rw [hc.e]; rfl) fun s6 S6 => h D F' s6 p vs hle hp hD hN S6
end
end Mine
end

section
/-! W14: law: length, the first question. -/
set_option maxRecDepth 100000
set_option maxHeartbeats 4000000
namespace Mine
open PySem PySem.Calls PyProof.Rows PySem.W PySem.Builtin

theorem NatsAre.at {p : List Nat} {vs : List Value} (h : NatsAre p vs) {k a : Nat} (hk : p[k]? = some a) : ∃ t, vs[k]? = some (.int (a : Nat) t) := by
  obtain ⟨b, v, h1, h2, t, h3⟩ := Paired.get h k (List.getElem?_eq_some_iff.mp hk).1
  rw [hk] at h1; cases h1
  exact ⟨t, by rw [h2, h3]⟩
/-- the place before the k-th in a round -/
def before (p : List Nat) (k : Nat) : Nat := lastD (lastD 0 p) (p.take k)
theorem before_zero {p : List Nat} (h : p ≠ []) : ∃ i, p.getLast? = some i ∧ before p 0 = i := by
  cases hl : p.getLast? with
  | none => exact absurd (List.getLast?_eq_none_iff.mp hl) h
  | some i => exact ⟨i, rfl, by unfold before lastD; simp [hl]⟩
theorem before_succ {p : List Nat} {k a : Nat} (h : p[k]? = some a) : before p (k + 1) = a := by
  unfold before
  rw [take_snoc h, lastD_snoc]
theorem before_mem {p : List Nat} (h : p ≠ []) {k : Nat} (hk : k ≤ p.length) : before p k ∈ p := by
  cases k with
  | zero =>
    obtain ⟨i, h1, h2⟩ := before_zero h
    rw [h2]; exact List.mem_of_getLast? h1
  | succ k =>
    have : p[k]? = some p[k] := List.getElem?_eq_getElem (by omega)
    rw [before_succ this]; exact List.getElem_mem _

theorem Paired.of_get {α : Type} {R : α → Value → Prop} : ∀ {l : List α} {vs : List Value}, l.length = vs.length → (∀ (i : Nat) a v, l[i]? = some a → vs[i]? = some v → R a v) → Paired R l vs
  | [], [], _, _ => .nil
  | a :: l, v :: vs, hl, h => .cons (h 0 a v rfl rfl) (Paired.of_get (by simpa using hl) fun i a v h1 h2 => h (i + 1) a v (by simpa using h1) (by simpa using h2))
  | [], _ :: _, hl, _ => by cases hl
  | _ :: _, [], hl, _ => by cases hl
theorem ints_snoc : ∀ {vs : List Value} {ns : List Int} {n : Int} {t : Tok}, IntsAre vs ns → IntsAre (vs ++ [.int n t]) (ns ++ [n])
  | _, _, n, t, .nil => .cons n t .nil
  | _, _, _, _, .cons a u r => .cons a u (ints_snoc r)

section
variable {prog : Program} {w : World} {A : Around} {E : Value → Shared → Prop} {F : Fz} {mu : Mu} {s : Shared} {c : Cx} {env : Env}

/-- order[k - 1] -/
theorem subPrev {value slice : Expr} {pos : Pos} {Q : Value → Shared → Prop}
    (h : wpAny (model prog w) A (eval value env) (fun o s₁ => wpAny (model prog w) A (eval slice env) (fun i s₂ => ∃ c F mu vs, ∃ (p : List Nat) (k : Nat) (t : Tok), St0 c F mu s₂ ∧ SList F o vs ∧ NatsAre p vs ∧ k < p.length ∧ p.length ≤ 1000 ∧ i = .int ((k : Int) - 1) t ∧ ∀ t', Q (.int (before p k : Nat) t') s₂) E s₁) E s)
    (hs : ∀ o i, subscripted slice false o i = operate [o, i] (getItem o i) := by intro _ _; with_unfolding_all rfl) :
    wpAny (model prog w) A (eval (.Subscript value slice pos) env) Q E s := by
  refine Subscript_ (wpAny_mono h (fun o s₁ h₁ => wpAny_mono h₁ (fun i s₂ h₂ => ?_) fun _ _ e => e) fun _ _ e => e)
  obtain ⟨c, F, mu, vs, p, k, t, S, hl, hN, hk, hz, rfl, hq⟩ := h₂
  obtain ⟨l, ol, rfl, _⟩ := id hl
  have hvl : vs.length = p.length := hN.length.symm
  refine anyBase (subscriptTail_builtin (value := .Name "_" default) (hl.isList S.inn).typeIs slot_list_getitem.lookup ?_ (hs _ _) (fun _ => rfl))
  cases k with
  | zero =>
    obtain ⟨i, h1, h2⟩ := before_zero (p := p) (fun e => by rw [e] at hk; exact absurd hk (Nat.not_lt_zero _))
    have h3 : vs.getLast? = vs[p.length - 1]? := by rw [List.getLast?_eq_getElem?, hvl]
    have h4 : p[p.length - 1]? = some i := by rw [← List.getLast?_eq_getElem?]; exact h1
    obtain ⟨t', ht'⟩ := hN.at h4
    have e0 : ((0 : Nat) : Int) - 1 = -1 := by omega
    rw [e0]
    refine indexNeg S hl (h3.trans ht') ?_
    rw [← h2]; exact hq t'
  | succ k =>
    have h4 : p[k]? = some p[k] := List.getElem?_eq_getElem (by omega)
    obtain ⟨t', ht'⟩ := hN.at h4
    have e0 : ((k + 1 : Nat) : Int) - 1 = ((k : Nat) : Int) := by omega
    rw [e0]
    refine indexS S hl ht' (by omega) ?_
    have := hq t'
    rw [before_succ h4] at this
    exact this

theorem rangeSize1 {n : Nat} (h1 : 2 ≤ n) (h2 : n ≤ 6) : Builtin.Range.small 1 n 1 = true ∧ Builtin.Range.rangeSize 1 n 1 = ((n - 1 : Nat) : Nat) := by
  have : n = 2 ∨ n = 3 ∨ n = 4 ∨ n = 5 ∨ n = 6 := by omega
  rcases this with rfl | rfl | rfl | rfl | rfl <;> exact ⟨by decide, by decide⟩

/-- list(range(1, n)) -/
theorem listRange {n : Nat} {t u : Tok} {Q : Value → Shared → Prop} (hh : A.handled = none) (S : St0 c F mu s) (h1 : 2 ≤ n) (h2 : n ≤ 6)
    (h : ∀ a F' s' vs, F.Le F' → St0 c F' mu s' → SList F' (.ref a) vs → NatsAre (List.range' 1 (n - 1)) vs → Q (.ref a) s') :
    wpAny (model prog w) A (call (.type "range") [.int 1 t, .int n u]) (fun r s₁ => wpAny (model prog w) A (call (.type "list") [r]) Q E s₁) E s := by
  refine call_range_2 ?_
  obtain ⟨hle, S'⟩ := S.pushF { cls := .type "range", data := .fields #[.int 1 t, .int n u, .int 1 s.toks] } rfl
  have hp := Fz.put_self F s.heap.objs.size { cls := .type "range", data := .fields #[.int 1 t, .int n u, .int 1 s.toks] }
  have S'' := S'.same (s' := { s with heap := _, toks := s.toks + 1 }) rfl rfl rfl
  obtain ⟨g1, g2⟩ := rangeSize1 h1 h2
  refine call_list_range (n := n - 1) hh (S''.inn _ _ hp) g1 g2 (by omega) fun h' tk acc' c' hk hget hit => ?_
  have S3 := S''.new_at (s' := { s with heap := h', toks := tk }) (P := lst acc'.toList) (get_none_size _) hk ⟨_, hget, rfl, rfl, c', by simp⟩ rfl rfl
  obtain ⟨o, ho, hle2, hF, S4⟩ := S3.freeze
  refine h _ _ _ acc'.toList (hle.trans hle2) S4 ⟨_, o, rfl, hF, ho⟩ ?_
  refine Paired.of_get ?_ fun i a v ha hv => ?_
  · rw [List.length_range']; simp [hit.1]
  · have hi := (List.getElem?_eq_some_iff.mp ha).1
    rw [List.length_range'] at hi
    rw [List.getElem?_range' hi] at ha
    obtain ⟨t', ht'⟩ := hit.2 i v (by simpa using hv)
    simp only [Option.some.injEq] at ha
    refine ⟨t', ?_⟩
    have e : (1 + (i : Int) * 1) = ((1 + 1 * i : Nat) : Int) := by omega
    rw [e] at ht'
    rw [ht', ← ha]
end

def lenB (p : List Nat) (i : Nat) (R : Nat → List T) : Int := path (dist R) (lastD 0 p) (p.take i)

section
variable {prog : Program} {w : World} {A : Around} {E : Value → Shared → Prop} {H : Heap} {mg mb : PySem.Str → Option Value} {F : Fz} {m : PySem.Str → Option Value} {mu : Mu} {s s0 : Shared} {env : Env} {a1 a2 a3 a4 a5 a6 a7 : Addr} {F0 : Fz} {Q : Flow → Shared → Prop} {c : Cx}

theorem law16 (B : Bs H mg mb) (G : Gl mg) (he : EnvOk env (fScope lawSt)) (hr : Rm A 30) (hc : LCells env a1 a2 a3 a4 a5 a6 a7) {R : Nat → List T} {n : Nat} {p : List Nat} {v1 v2 v3 v6 : Option Value} {tn : Tok} {O : Addr} {ovs : List Value} {sv : Value}
    (S : St (cx H F0 s0) F env.locals m (lMu a1 a2 a3 a4 a5 a6 a7 v1 v2 v3 (some (.int n tn)) (some sv) v6 (some (.ref O))) s) (hn : n ≤ 6) (hp : ∀ i, i ∈ p ↔ i < n) (hpl : p.length = n) (hO : SList F (.ref O) ovs) (hN : NatsAre p ovs) (hM : Mat F sv n (dist R))
    (h : ∀ F' s' t, F.Le F' → St (cx H F0 s0) F' env.locals (upd m "length" (.int (path (dist R) (lastD 0 p) p) t)) (lMu a1 a2 a3 a4 a5 a6 a7 v1 v2 v3 (some (.int n tn)) (some sv) v6 (some (.ref O))) s' → Q .next s') :
    wpAny (model prog w) A (exec (lawI 16) env) Q E s := by
  have hh : A.handled = none := hr.hd
  refine wpAny_Assign_Name ?_
  refine cB1 (fun _ h => ldB S B G he h) ?_
  refine lcomp (cl := [(("steps" : PySem.Str), a5), (("order" : PySem.Str), a7)]) hh he (by rw [hc.e]; rfl) (by rfl) (fun i F ys => ∃ ns, IntsAre ys ns ∧ ns.sum = path (dist R) (lastD 0 p) (p.take i)) (fun _ _ _ _ _ h => h) ?_
  refine cT1 (fun _ h => ldB S B G he h) (ldc' (a := a4) he (by rw [hc.e]; rfl) (S.cell (v := some (.int n tn)) (by simp [lMu])) (range1 S (by omega) fun rg F1 s1 hle1 S1 hit1 => ?_))
  refine ⟨_, _, _, _, _, S1, hit1 _ hh, by omega, ⟨[], .nil, rfl⟩, ?_, ?_⟩
  · rintro cenv i v I K D m2 F2 ys s2 heC hcC hi ⟨tv, rfl⟩ hle2 ⟨ns, hns, hsum⟩ hys S2
    refine wpAny_assign_Name (st' S2 heC fun s3 S3 => wpAny_tests_nil ?_)
    rw [if_pos rfl]
    have k5 : cenv.cells.lookup ("steps" : PySem.Str) = some a5 := by rw [hcC]; rfl
    have k7 : cenv.cells.lookup ("order" : PySem.Str) = some a7 := by rw [hcC]; rfl
    have o5 := S1.cell (a := a5) (v := some sv) (by simp [lMu])
    have o7 := S1.cell (a := a7) (v := some (.ref O)) (by simp [lMu])
    have hO2 := hO.le (hle1.trans hle2)
    obtain ⟨mvs, hmv, hml, hrow⟩ := hM.le (hle1.trans hle2)
    have hpi : p[i]? = some p[i] := List.getElem?_eq_getElem (by omega)
    have hpn : p[i] < n := (hp _).mp (List.getElem_mem _)
    have hbn : before p i < n := (hp _).mp (before_mem (fun e => by rw [e] at hpl; simp at hpl; omega) (by omega))
    obtain ⟨rv, ws, hrv, hws, hcol⟩ := hrow (before p i) hbn
    obtain ⟨tm, hcm⟩ := hcol p[i] hpn
    obtain ⟨to, hto⟩ := hN.at hpi
    obtain ⟨svl, _, rfl, _, _⟩ := id hmv
    refine subS ?_
    refine subS ?_
    refine ldc' (a := a5) heC k5 (oldCell S3 o5) ?_
    refine subPrev ?_
    refine ldc' (a := a7) heC k7 (oldCell S3 o7) (wpAny_BinOp (ld' S3 heC rfl (constI S3 fun s4 t4 S4 => subI S4 fun s5 t5 S5 => ?_)))
    refine ⟨_, _, _, ovs, p, i, t5, S5, hO2, hN, by omega, by omega, rfl, fun t6 => ?_⟩
    refine ⟨_, _, _, _, _, before p i, t6, S5, hmv, rfl, by omega, hrv, ?_⟩
    refine subS ?_
    refine ldc' (a := a7) heC k7 (oldCell S5 o7) (ld' S5 heC rfl ?_)
    refine ⟨_, _, _, _, _, i, tv, S5, hO2, rfl, by omega, hto, ?_⟩
    refine ⟨_, _, _, _, _, p[i], to, S5, hws, rfl, by omega, hcm, ?_⟩
    refine ⟨_, F2, .refl _, S5, ns ++ [dist R (before p i) p[i]], ints_snoc hns, ?_⟩
    rw [List.sum_append, hsum, take_snoc hpi, path_app]
    simp [path, before]
  · rintro D F2 ys s2 hle2 S2 hD ⟨ns, hns, hsum⟩ hlen
    refine sumS hh S2 hD hns fun s3 t S3 => ?_
    rw [hsum, List.take_of_length_le (by omega)]
    exact st' S3 he fun s4 S4 => h F2 s4 t (hle1.trans hle2) S4

theorem law17 {f21 : Addr} {d21 : FuncData} (B : Bs H mg mb) (G : Gl mg) (X21 : FnAt H mg "_law_round" (nth 21) f21 d21) (he : EnvOk env (fScope lawSt)) (hr : Rm A 30) (hc : LCells env a1 a2 a3 a4 a5 a6 a7) {R : Nat → List T} {n sh : Nat} {p : List Nat} {v1 v2 v3 v6 v7 : Option Value} {tn tl : Tok} {sv : Value} {D : Addr} {o : Obj} {ks0 : List (List T)}
    (S : St (cx H F0 s0) F env.locals m (lMu a1 a2 a3 a4 a5 a6 a7 v1 v2 v3 (some (.int n tn)) (some sv) v6 v7) s) (hn2 : 2 ≤ n) (hn : n ≤ 6) (hp : OrderIs R n p) (hM : Mat F sv n (dist R)) (hml : m "length" = some (.int (path (dist R) (lastD 0 p) p) tl)) (hmf : m "folders" = some (.ref D))
    (hsh : SharedIs n R sh) (hF : F D = some o) (hset : setT prog w F ks0 o) (hfo : Fold R sh n 0 ks0)
    (h : ∀ F' s', F.Le F' → St (cx H F0 s0) F' env.locals m (lMu a1 a2 a3 a4 a5 a6 a7 v1 v2 v3 (some (.int n tn)) (some sv) v6 v7) s' → Q .next s') :
    wpAny (model prog w) A (exec (lawI 17) env) Q E s := by
  have hh : A.handled = none := hr.hd
  refine wpAny_If (wpAny_isTrue_BoolOp (wpAny_allTrue_Or_cons ?_))
  refine wpAny_isTrue_Compare1 (ld' S he hml ?_)
  refine wpAny_BinOp (constI S fun s2 t2 S2 => ?_)
  refine cB1 (fun _ h => ldB S2 B G he h) (ld' S2 he hmf (lenSetT S2 hF hset fun k t s3 hk S3 => ?_))
  obtain ⟨ks, hnd, hmem, rfl⟩ := hk
  have Fo : Folders n R sh ks := hfo.folders hnd hmem
  have hlen := tour_len hsh Fo (by omega) hp.mem hp.le 0
  refine mul2I S3 fun s4 t4 S4 => ne_int ?_
  rw [hlen]
  rw [show ((2 * (ks.length : Int)) != (2 * (ks.length : Int))) = false by simp]
  refine wpAny_truthy_bool ?_
  rw [if_neg Bool.false_ne_true]
  refine wpAny_allTrue_Or_cons ?_
  refine wpAny_isTrue_Compare1 ?_
  refine cF S4 rfl B X21 he ?_
  refine args_cons (constI S4 fun s5 t5 S5 => ?_)
  refine args_cons ?_
  refine cT1 (fun _ h => ldB S5 B G he h) ?_
  refine cT2 (fun _ h => ldB S5 B G he h) (constI S5 fun s6 t6 S6 => ldc' (a := a4) he (by rw [hc.e]; rfl) (S6.cell (v := some (.int n tn)) (by simp [lMu])) ?_)
  refine listRange hh S6 hn2 hn fun la F2 s7 vs hle S7 hl hNl => ?_
  refine args_cons (ldc' (a := a5) he (by rw [hc.e]; rfl) (S7.cell (v := some sv) (by simp [lMu])) ?_)
  refine args_cons (constI S7 fun s8 t8 S8 => ?_)
  refine args_nil ⟨keepF X21 S4 S8 rfl rfl, ?_⟩
  refine callS S8 (roundC B G X21 n 0 (dist R) (by omega) hn (n - 1) A F2 s8 (List.range' 1 (n - 1)) 0 t5 t8 la vs sv (by omega) (by rw [List.length_range']) List.nodup_range' (fun k hk => by rw [List.mem_range'_1] at hk; omega) (by omega) S8.pre (hr.le (by omega)) hl hNl (hM.le hle)) fun v F3 s9 hle3 S9 hv => ?_
  obtain ⟨r, t, rfl, hr'⟩ := hv
  have hr2 := round_len hsh Fo (by omega) hp.perm hp.le (.refl _) hr'
  refine ld' S9 he hml (ne_int ?_)
  rw [hr2, hlen]
  rw [show ((2 * (ks.length : Int)) != (2 * (ks.length : Int))) = false by simp]
  refine wpAny_truthy_bool ?_
  rw [if_neg Bool.false_ne_true]
  refine wpAny_allTrue_Or_nil ?_
  rw [if_neg Bool.false_ne_true]
  exact wpAny_execs_nil (h F3 s9 (hle.trans hle3) S9)
end
end Mine
end

section
/-! W15: law: a dict keyed by texts of either kind. -/
set_option maxRecDepth 100000
set_option maxHeartbeats 4000000
namespace Mine
open PySem PySem.Calls PyProof.Rows PySem.W PySem.Builtin

def bytB (k : T) : Bool := k.all fun c => decide (c < 256)
theorem bytB_iff {k : T} : bytB k = true ↔ Byt k := by unfold bytB Byt; simp
/-- a text as a key -/
def txIs (oct : Bool) (k : T) (v : Value) : Bool := if oct then bytB k && isBytes (k.map UInt8.ofNat) v else Value.isStrOf (us k) v

def txKind (prog : Program) (w : World) (oct : Bool) : PySem.KeyKind prog w T where
  is := txIs oct
  hash k := if oct then (bytesKind prog w).hash (k.map UInt8.ofNat) else (PySem.strKind prog w).hash (us k)
  inj v a b ha hb := by
    cases oct with
    | true =>
      simp only [txIs, if_true, Bool.and_eq_true, bytB_iff] at ha hb
      exact map_inj ha.1 hb.1 ((bytesKind prog w).inj v _ _ ha.2 hb.2)
    | false =>
      simp only [txIs, Bool.false_eq_true, if_false] at ha hb
      exact us_inj.mp ((PySem.strKind prog w).inj v _ _ ha hb)
  byValue k v h := by
    cases oct with
    | true =>
      simp only [txIs, if_true, Bool.and_eq_true] at h
      exact (bytesKind prog w).byValue _ v h.2
    | false =>
      simp only [txIs, Bool.false_eq_true, if_false] at h
      exact (PySem.strKind prog w).byValue _ v h
  pyHash := fun {A E s k v Q} hv h => by
    cases oct with
    | true =>
      simp only [txIs, if_true, Bool.and_eq_true] at hv
      exact (bytesKind prog w).pyHash hv.2 h
    | false =>
      simp only [txIs, Bool.false_eq_true, if_false] at hv
      exact (PySem.strKind prog w).pyHash hv h
  eqBool := fun {A E s a b u v Q} hu hv h => by
    cases oct with
    | true =>
      simp only [txIs, if_true, Bool.and_eq_true, bytB_iff] at hu hv
      refine (bytesKind prog w).eqBool hu.2 hv.2 ?_
      have e : decide (a.map UInt8.ofNat = b.map UInt8.ofNat) = decide (a = b) := by
        rw [Bool.eq_iff_iff, decide_eq_true_eq, decide_eq_true_eq]
        exact ⟨fun q => map_inj hu.1 hv.1 q, fun q => by rw [q]⟩
      rw [e]; exact h
    | false =>
      simp only [txIs, Bool.false_eq_true, if_false] at hu hv
      refine (PySem.strKind prog w).eqBool hu hv ?_
      have e : decide (us a = us b) = decide (a = b) := by
        rw [Bool.eq_iff_iff, decide_eq_true_eq, decide_eq_true_eq]
        exact us_inj
      rw [e]; exact h
  «strs» k x t v h := by
    cases oct with
    | true =>
      simp only [txIs, if_true, Bool.and_eq_true] at h
      cases h.2
    | false =>
      simp only [txIs, Bool.false_eq_true, if_false] at h ⊢
      exact (PySem.strKind prog w).strs _ x t v h
theorem txKind_is (prog : Program) (w : World) {oct : Bool} {k : T} (h : Byt k) (t : Tok) : (txKind prog w oct).is k (tx oct k t) = true := by
  cases oct with
  | true =>
    show (bytB k && isBytes (k.map UInt8.ofNat) (.bytes (ub k) t)) = true
    rw [bytB_iff.mpr h]
    simp [isBytes, ub]
  | false =>
    show Value.isStrOf (us k) (.str (us k) t) = true
    simp [Value.isStrOf]

/-- what passed holds -/
structure PassedIs (l : List T) (kvs : List (T × Value)) : Prop where
  nd : (kvs.map (·.1)).Nodup
  len : kvs.length ≤ l.length
  no : ∀ k, k ∉ l → valueAt kvs k = none
  yes : ∀ k, k ∈ l → ∃ t, valueAt kvs k = some (.int (l.count k : Nat) t)
theorem valueAt_stored (kvs : List (T × Value)) (k k' : T) (v : Value) : valueAt (stored kvs k v) k' = if k' = k then some v else valueAt kvs k' := by
  unfold stored valueAt
  by_cases h : kvs.any (fun kv => kv.1 = k) = true
  · rw [if_pos h]
    have key : ∀ l : List (T × Value), ((l.map fun kv => if kv.1 = k then (kv.1, v) else kv).find? fun kv => kv.1 = k').map (·.2) = if k' = k then (if l.any (fun kv => kv.1 = k) then some v else none) else (l.find? fun kv => kv.1 = k').map (·.2) := by
      intro l
      induction l with
      | nil => simp
      | cons x l ih =>
        by_cases hx : x.1 = k
        · by_cases hk : k' = k
          · simp [hx, hk]
          · have : ¬ k = k' := fun e => hk e.symm
            simp only [List.map_cons, if_pos hx]
            rw [List.find?_cons_of_neg (by simpa [hx] using this), List.find?_cons_of_neg (by simpa [hx] using this), ih]
            simp [hk]
        · by_cases hk : k' = k
          · subst hk
            simp only [List.map_cons, if_neg hx]
            rw [List.find?_cons_of_neg (by simpa using hx), ih, List.any_cons, decide_eq_false hx, Bool.false_or, if_pos rfl, if_pos trivial]
          · simp only [List.map_cons, if_neg hx]
            by_cases hxk : x.1 = k'
            · simp [hxk, hk]
            · rw [List.find?_cons_of_neg (by simpa using hxk), List.find?_cons_of_neg (by simpa using hxk), ih]
              simp [hk]
    rw [key, if_pos h]
  · rw [if_neg h, List.find?_append]
    by_cases hk : k' = k
    · subst hk
      have : (kvs.find? fun kv => kv.1 = k') = none := by
        rw [List.find?_eq_none]
        intro x hx hq
        exact h (List.any_eq_true.mpr ⟨x, hx, hq⟩)
      rw [this]; simp
    · rw [if_neg hk]
      have : ¬ k = k' := fun e => hk e.symm
      cases hf : kvs.find? fun kv => kv.1 = k' with
      | none => simp [this]
      | some y => simp
theorem keys_stored (kvs : List (T × Value)) (k : T) (v : Value) (h : (kvs.map (·.1)).Nodup) : ((stored kvs k v).map (·.1)).Nodup := by
  unfold stored
  by_cases hk : kvs.any (fun kv => kv.1 = k) = true
  · rw [if_pos hk, keys_map_store]; exact h
  · rw [if_neg hk, List.map_append, List.nodup_append]
    refine ⟨h, by simp, fun a ha b hb e => ?_⟩
    simp only [List.map_cons, List.map_nil, List.mem_singleton] at hb
    subst hb; subst e
    obtain ⟨x, hx, hxa⟩ := List.mem_map.mp ha
    exact hk (List.any_eq_true.mpr ⟨x, hx, by simpa using hxa⟩)
theorem PassedIs.nil : PassedIs [] [] := ⟨List.nodup_nil, Nat.le_refl _, fun _ _ => rfl, fun _ h => nomatch h⟩
theorem PassedIs.step {l : List T} {kvs : List (T × Value)} (h : PassedIs l kvs) (k : T) (t : Tok) : PassedIs (l ++ [k]) (stored kvs k (.int ((l.count k + 1 : Nat) : Int) t)) := by
  refine ⟨keys_stored _ _ _ h.nd, ?_, fun k' hk => ?_, fun k' hk => ?_⟩
  · have h1 := stored_length_le kvs k (.int ((l.count k + 1 : Nat) : Int) t)
    have h2 := h.len
    rw [List.length_append, List.length_singleton]; omega
  · rw [valueAt_stored, if_neg (fun e => hk (by rw [e]; simp))]
    exact h.no k' fun hm => hk (List.mem_append_left _ hm)
  · rw [valueAt_stored]
    by_cases e : k' = k
    · subst e
      rw [if_pos rfl]
      exact ⟨t, by simp [List.count_append]⟩
    · rw [if_neg e]
      have hm : k' ∈ l := by
        rcases List.mem_append.mp hk with hk | hk
        · exact hk
        · exact absurd (List.mem_singleton.mp hk) e
      obtain ⟨t', ht'⟩ := h.yes k' hm
      refine ⟨t', ?_⟩
      rw [ht', List.count_append, List.count_singleton, if_neg (by simpa using fun q => e q.symm)]
      simp

/-- the answer to dict.get(k, 0) -/
theorem PassedIs.get {l : List T} {kvs : List (T × Value)} (h : PassedIs l kvs) (k : T) (t : Tok) : ∃ t', (valueAt kvs k).getD (.int 0 t) = .int (l.count k : Nat) t' := by
  by_cases hm : k ∈ l
  · obtain ⟨t', ht'⟩ := h.yes k hm
    exact ⟨t', by rw [ht']; rfl⟩
  · refine ⟨t, ?_⟩
    rw [h.no k hm, List.count_eq_zero.mpr hm]; rfl

section
variable {prog : Program} {w : World} {A : Around} {E : Value → Shared → Prop} {F : Fz} {mu : Mu} {s : Shared} {c : Cx} {env : Env} {mg mb : PySem.Str → Option Value}

def dictP (prog : Program) (w : World) (oct : Bool) (kvs : List (T × Value)) (o : Obj) : Prop := Obj.IsDictOf (txKind prog w oct) o kvs
theorem dictP.of {oct : Bool} {kvs : List (T × Value)} {D : Addr} (S : St0 c F ((D, dictP prog w oct kvs) :: mu) s) : s.heap.DictOf (txKind prog w oct) D kvs := by
  obtain ⟨o, ho, hd⟩ := S.hd
  exact Heap.dictOf_iff.mpr ⟨o, ho, hd⟩

theorem newDictP {oct : Bool} {pos : Pos} {M : Model} {Q : Value → Shared → Prop} (B : Bs c.base mg mb) (S : St0 c F mu s) (h : ∀ D s', (D == sysModules) = false → St0 c F ((D, dictP prog w oct []) :: mu) s' → Q (.ref D) s') : wpAny M A (eval (.Dict [] [] pos) env) Q E s := by
  refine wpAny_Dict_empty (h _ _ ?_ (S.push _ rfl ⟨#[], 0, ⟨rfl, rfl, rfl⟩, rfl, (fun e he => by simp at he), .nil, List.nodup_nil⟩))
  obtain ⟨mc, ⟨o, es, ep, ho, _⟩, _⟩ := B.lim
  have h1 := Heap.lt_size (S.keepsH _ _ ho)
  have h2 : (2 : Nat) < s.heap.objs.size := h1
  refine beq_eq_false_iff_ne.mpr fun e => ?_
  have h3 : s.heap.objs.size = 1 := e
  omega

theorem setP {oct : Bool} {kvs : List (T × Value)} {D : Addr} {k : T} {t : Tok} {v : Value} {Q : Unit → Shared → Prop} (S : St0 c F ((D, dictP prog w oct kvs) :: mu) s) (hk : Byt k) (hz : kvs.length ≤ 1000)
    (h : ∀ s', St0 c F ((D, dictP prog w oct (stored kvs k v)) :: mu) s' → Q () s') : wpAny (model prog w) A (setItem (.ref D) (tx oct k t) v) Q E s := by
  refine wpAny_setItem_pairs (txKind_is prog w hk t) (dictP.of S) (fun h' hm hs => h _ ?_) (by show kvs.length ≤ 2 ^ 24; omega)
  obtain ⟨o, ho, hd⟩ := Heap.dictOf_iff.mp hm
  exact S.upd (fun b o hb e => (hs.2 b hb).trans e) ⟨o, ho, hd⟩ rfl rfl

theorem getP {oct : Bool} {kvs : List (T × Value)} {D : Addr} {k : T} {t : Tok} {z : Value} {Q : Value → Shared → Prop} (S : St0 c F ((D, dictP prog w oct kvs) :: mu) s) (hD : (D == sysModules) = false) (hk : Byt k)
    (h : ∀ s', St0 c F ((D, dictP prog w oct kvs) :: mu) s' → Q ((valueAt kvs k).getD z) s') : wpAny (model prog w) A (call (.builtin "dict.get") [.ref D, tx oct k t, z]) Q E s := by
  have hm := (dictP.of S).mapOf
  exact call_meetsIn PySem.F.slot_dict_get hm.typeIs PySem.F.entry_dict_get (PySem.F.args_dict_get_3 _ _ _) (meets_dict_get_default (txKind prog w oct) D (txKind_is prog w hk t) hD z) ⟨_, hm, h _ (S.tok _)⟩
theorem getMethP {oct : Bool} {kvs : List (T × Value)} {D : Addr} {pl : Sem Bool} {Q : Value × List Value → Shared → Prop} (S : St0 c F ((D, dictP prog w oct kvs) :: mu) s) (h : Q (.builtin "dict.get", [.ref D]) s) : wpAny (model prog w) A (getMethod (.ref D) "get" pl) Q E s :=
  getMethod_builtin (dictP.of S).typeIs PySem.F.plainAttrs_dict PySem.F.slot_dict_get PySem.F.type_dict_get (dictP.of S).mapOf.noDict h
end
end Mine
end

section
/-! W16: law: passed, here; rules for the walk. -/
set_option maxRecDepth 100000
set_option maxHeartbeats 4000000
namespace Mine
open PySem PySem.Calls PyProof.Rows PySem.W PySem.Builtin

section
variable {prog : Program} {w : World} {A : Around} {E : Value → Shared → Prop} {F : Fz} {m mg mb : PySem.Str → Option Value} {mu : Mu} {s : Shared} {c : Cx} {env : Env} {sc : Scope}

/-- told[a, b] -/
theorem toldGet {e1 e2 : Expr} {vx : PySem.Str} {k : Nat} {p1 p2 p3 : Pos} {D : Addr} {a b : Nat} {t u : Tok} {xs : List (List Int × Addr × Value)} {q : Addr × Value} {Q : Value → Shared → Prop} (hu : A.units + 1 < cLine) (S : St0 c F mu s) (hT : TF prog w F D xs)
    (hv : ∀ Q' : Value → Shared → Prop, Q' (.ref D) s → wpAny (model prog w) A (eval (.Name vx p1) env) Q' E s)
    (h1 : ∀ Q' : Value → Shared → Prop, Q' (.int a t) s → wpAny (model prog w) A (eval e1 env) Q' E s)
    (h2 : ∀ Q' : Value → Shared → Prop, Q' (.int b u) s → wpAny (model prog w) A (eval e2 env) Q' E s)
    (hq : atKey xs [(a : Int), (b : Int)] = some q) (h : ∀ F' s', F.Le F' → St0 c F' mu s' → Q q.2 s')
    (hs1 : starEach [e1, e2] env = (false, eval e1 env) :: starEach [e2] env := by rfl) (hs2 : starEach [e2] env = (false, eval e2 env) :: starEach [] env := by rfl)
    (hs : ∀ o i, subscripted (.Tuple [e1, e2] k p2) false o i = operate [o, i] (getItem o i) := by intro _ _; with_unfolding_all rfl) :
    wpAny (model prog w) A (eval (.Subscript (.Name vx p1) (.Tuple [e1, e2] k p2) p3) env) Q E s := by
  refine Subscript_ (hv _ ?_)
  refine Tuple_ ?_
  refine args_cons (he := hs1) (h1 _ ?_)
  refine args_cons (he := hs2) (h2 _ ?_)
  refine args_nil (newTupleS S (by simp) fun ta F2 s2 hle S2 _ hta => ?_)
  have hT2 := hT.le hle
  obtain ⟨o, ho, ⟨hc, _, _⟩, _⟩ := id hT2
  refine anyBase (subscriptTail_builtin (value := .Name "_" default) ⟨o, S2.inn _ _ ho, hc⟩ slot_dict_getitem.lookup ?_ (hs _ _) (fun _ => rfl))
  exact TF.get hu S2 hT2 ⟨_, hta, .cons _ _ (.cons _ _ .nil)⟩ hq fun s3 S3 => h F2 s3 hle S3

/-- passed[here] = passed.get(here, 0) + 1 -/
theorem passStep {p1 p2 p3 p4 p5 p6 p7 p8 p9 p10 p11 : Pos} {k0 k1 : Nat} {oct : Bool} {D : Addr} {kvs : List (T × Value)} {l : List T} {key : T} {th : Tok} {Q : Flow → Shared → Prop} (he : EnvOk env (fScope lawSt))
    (S : St c F env.locals m ((D, dictP prog w oct kvs) :: mu) s) (hD : (D == sysModules) = false) (hpm : m "passed" = some (.ref D)) (hhm : m "here" = some (tx oct key th)) (hk : Byt key) (hP : PassedIs l kvs) (hz : l.length ≤ 900)
    (h : ∀ s' kvs', PassedIs (l ++ [key]) kvs' → St c F env.locals m ((D, dictP prog w oct kvs') :: mu) s' → Q .next s') {pl : Sem Bool}
    (hev : eval (.Call (.Attribute (.Name "passed" p4) "get" p5) [.Name "here" p6, .Constant (.int 0) k0 p7] [] p8) env = (do
      let ov ← eval (.Name "passed" p4) env
      standAt p5.atName
      let (f, first) ← holding [ov] (getMethod ov "get" pl)
      callWith p8 f first (backTo p8 (starEach [.Name "here" p6, .Constant (.int 0) k0 p7] env)) []) := by rfl)
    (hsw : swapsWith (.BinOp (.Call (.Attribute (.Name "passed" p4) "get" p5) [.Name "here" p6, .Constant (.int 0) k0 p7] [] p8) .Add (.Constant (.int 1) k1 p9) p10) (some (.Subscript (.Name "passed" p1) (.Name "here" p2) p3)) p11.line env = pure false := by rfl) :
    wpAny (model prog w) A (exec (.Assign [.Subscript (.Name "passed" p1) (.Name "here" p2) p3] (.BinOp (.Call (.Attribute (.Name "passed" p4) "get" p5) [.Name "here" p6, .Constant (.int 0) k0 p7] [] p8) .Add (.Constant (.int 1) k1 p9) p10) p11) env) Q E s := by
  have hlen := hP.len
  refine wpAny_Assign_Subscript (hs := hsw) ?_
  refine wpAny_BinOp ?_
  refine MethodCall_ (he := hev) ?_
  refine ld' S he hpm (getMethP S.swap ?_)
  refine callWith_method1 ?_
  refine args_cons (ld' S he hhm ?_)
  refine args_cons (constI S fun s2 t2 S2 => args_nil ?_)
  refine getP S2.swap hD hk fun s3 S3 => ?_
  obtain ⟨t', ht'⟩ := hP.get key t2
  rw [ht']
  refine constI S3 fun s4 t4 S4 => addI S4 fun s5 t5 S5 => ?_
  rw [show ((l.count key : Nat) : Int) + 1 = ((l.count key + 1 : Nat) : Int) by omega]
  refine ld' S5.swap he hpm (ld' S5.swap he hhm ?_)
  exact setP S5 hk (by omega) fun s6 S6 => h s6 _ (hP.step key t5) S6.swap

end

section
variable {prog : Program} {w : World} {A : Around} {E : Value → Shared → Prop} {H : Heap} {mg mb : PySem.Str → Option Value} {F : Fz} {m : PySem.Str → Option Value} {mu : Mu} {s s0 : Shared} {env : Env} {a1 a2 a3 a4 a5 a6 a7 : Addr} {F0 : Fz} {Q : Flow → Shared → Prop} {c : Cx}

theorem law18 {oct : Bool} (B : Bs H mg mb) (he : EnvOk env (fScope lawSt)) (S : St (cx H F0 s0) F env.locals m mu s)
    (h : ∀ D s', (D == sysModules) = false → St (cx H F0 s0) F env.locals (upd m "passed" (.ref D)) ((D, dictP prog w oct []) :: mu) s' → Q .next s') :
    wpAny (model prog w) A (exec (lawI 18) env) Q E s := by
  refine wpAny_Assign_Name (newDictP (prog := prog) (w := w) (oct := oct) (c := cx H F0 s0) B S fun D s2 hD S2 => ?_)
  exact st' S2.swap he fun s3 S3 => h D s3 hD S3

theorem law19 (he : EnvOk env (fScope lawSt)) (hc : LCells env a1 a2 a3 a4 a5 a6 a7) {x0 : Addr × (Obj → Prop)} {oct r : Bool} {pss rows : List (List T)} {Rw C Pl O Td : Addr} {v1 v2 v3 v4 v5 v6 : Option Value} {p : List Nat} {ovs : List Value}
    (S : St (cx H F0 s0) F env.locals m (x0 :: lMu a1 a2 a3 a4 a5 a6 a7 v1 v2 v3 v4 v5 v6 (some (.ref O))) s) (X : LawX F oct r pss rows Rw C Pl) (L : LM m oct C Pl Td) (hO : OrderIs (rowAt rows) rows.length p) (hOv : SList F (.ref O) ovs) (hN : NatsAre p ovs)
    (h : ∀ s' t, St (cx H F0 s0) F env.locals (upd m "here" (tx oct (plainT r (rowAt rows (before p 0))) t)) (x0 :: lMu a1 a2 a3 a4 a5 a6 a7 v1 v2 v3 v4 v5 v6 (some (.ref O))) s' → Q .next s') :
    wpAny (model prog w) A (exec (lawI 19) env) Q E s := by
  have h2 := X.rowsF.low
  have h6 := X.rowsF.high
  have hpne : p ≠ [] := fun e => by have := hO.len; rw [e] at this; simp at this; omega
  obtain ⟨i, hi1, hi2⟩ := before_zero hpne
  have hin : i < rows.length := (hO.mem i).mp (List.mem_of_getLast? hi1)
  have hvl : ovs.length = p.length := hN.length.symm
  have h4 : p[p.length - 1]? = some i := by rw [← List.getLast?_eq_getElem?]; exact hi1
  obtain ⟨t', ht'⟩ := hN.at h4
  have h3 : ovs.getLast? = some (.int (i : Nat) t') := by rw [List.getLast?_eq_getElem?, hvl]; exact ht'
  obtain ⟨pvs, hpv, hpt⟩ := X.plain
  obtain ⟨tp, htp⟩ := hpt.at (i := i) (p := plainT r (rowAt rows i)) (by rw [List.getElem?_map, rowAt_get hin]; rfl)
  refine wpAny_Assign_Name ?_
  refine subS (ld' S he L.plain ?_)
  refine subLast (ldc' (a := a7) he (by rw [hc.e]; rfl) (S.cell (v := some (.ref O)) (by simp [lMu])) ?_)
  refine wpAny_UnaryOp (constI S fun s2 t2 S2 => PyProof.Rows.neg_int ?_)
  have S3 := S2.tok (s2.toks + 1)
  refine ⟨_, _, _, _, _, _, S3, hOv, rfl, h3, ?_⟩
  refine ⟨_, _, _, _, _, i, t', S3, hpv, rfl, by omega, htp, ?_⟩
  refine st' S3 he fun s4 S4 => ?_
  rw [hi2] at h
  exact h s4 tp S4
end
end Mine
end

section
/-! W17: law: the walk up and down. -/
set_option maxRecDepth 100000
set_option maxHeartbeats 4000000
namespace Mine
open PySem PySem.Calls PyProof.Rows PySem.W PySem.Builtin

def b20 (i : Nat) : Stmt := (forBody (lawI 20)).getD i (.Pass default)
/-- the locals but for some -/
def Keeps (xs : List PySem.Str) (m m' : PySem.Str → Option Value) : Prop := ∀ x, x ∉ xs → m' x = m x
theorem Keeps.refl {xs : List PySem.Str} {m : PySem.Str → Option Value} : Keeps xs m m := fun _ _ => rfl
theorem Keeps.upd {xs : List PySem.Str} {m m' : PySem.Str → Option Value} (h : Keeps xs m m') {x : PySem.Str} (hx : x ∈ xs) (v : Value) : Keeps xs m (upd m' x v) := fun y hy => by
  have hne : ¬ y = x := fun e => hy (by rw [e]; exact hx)
  unfold Mine.upd
  rw [if_neg hne]; exact h y hy
theorem Keeps.get {xs : List PySem.Str} {m m' : PySem.Str → Option Value} (h : Keeps xs m m') {x : PySem.Str} {v : Value} (hv : m x = some v) (hx : x ∉ xs := by decide) : m' x = some v := (h x hx).trans hv
theorem Keeps.lm {xs : List PySem.Str} {m m' : PySem.Str → Option Value} (h : Keeps xs m m') {oct : Bool} {C P Td : Addr} (L : LM m oct C P Td) (h1 : ("crooked" : PySem.Str) ∉ xs := by decide) (h2 : ("plain" : PySem.Str) ∉ xs := by decide) (h3 : ("told" : PySem.Str) ∉ xs := by decide) (h4 : ("slash" : PySem.Str) ∉ xs := by decide) : LM m' oct C P Td := by
  obtain ⟨t, ht⟩ := L.slash
  exact ⟨h.get L.crooked h1, h.get L.plain h2, h.get L.told h3, ⟨t, h.get ht h4⟩⟩

theorem take_last {l : List T} {k : Nat} (h : k < l.length) : ∃ p, l[k]? = some p ∧ l.take (k + 1) = l.take k ++ [p] := ⟨l[k], List.getElem?_eq_getElem h, take_snoc (List.getElem?_eq_getElem h)⟩
theorem range_snoc {β : Type} (f : Nat → β) (k : Nat) : (List.range (k + 1)).map f = (List.range k).map f ++ [f k] := by rw [List.range_succ, List.map_append]; rfl

section
variable {prog : Program} {w : World} {A : Around} {E : Value → Shared → Prop} {H : Heap} {mg mb : PySem.Str → Option Value} {F : Fz} {m : PySem.Str → Option Value} {mu : Mu} {s s0 : Shared} {env : Env} {a1 a2 a3 a4 a5 a6 a7 : Addr} {F0 : Fz} {Q : Flow → Shared → Prop} {c : Cx}

/-- for step in range(len(rows[start]) + 1): .. -/
theorem up20 {f15 f9 f13 : Addr} {d15 d9 d13 : FuncData} (B : Bs H mg mb) (G : Gl mg) (X15 : FnAt H mg "dirname" (nth 15) f15 d15) (X9 : FnAt H mg "fspath" (nth 9) f9 d9) (X13 : FnAt H mg "_get_sep" (nth 13) f13 d13) (he : EnvOk env (fScope lawSt)) (hr : Rm A 30) (hc : LCells env a1 a2 a3 a4 a5 a6 a7)
    {oct r : Bool} {pss rows : List (List T)} {Rw C Pl D : Addr} {kvs : List (T × Value)} {l : List T} {tl : Mu} {v1 v2 v4 v5 v6 v7 : Option Value} {i cc : Nat} {ti th tc : Tok}
    (S : St (cx H F0 s0) F env.locals m ((D, dictP prog w oct kvs) :: (lMu a1 a2 a3 a4 a5 a6 a7 v1 v2 (some (.ref Rw)) v4 v5 v6 v7 ++ tl)) s) (X : LawX F oct r pss rows Rw C Pl)
    (hD : (D == sysModules) = false) (hpm : m "passed" = some (.ref D)) (hst : m "start" = some (.int (i : Nat) ti)) (hi : i < rows.length) (hhm : m "here" = some (tx oct (plainT r (rowAt rows i)) th)) (hcm : m "common" = some (tx oct (plainT r ((rowAt rows i).take cc)) tc)) (hcc : cc ≤ (rowAt rows i).length)
    (hP : PassedIs l kvs) (hz : l.length ≤ 800)
    (h : ∀ F' s' m' kvs' th', F.Le F' → Keeps ["here", "step"] m m' → m' "here" = some (tx oct (plainT r ((rowAt rows i).take cc)) th') → PassedIs (l ++ (ups (rowAt rows i) cc).map (plainT r)) kvs' →
      St (cx H F0 s0) F' env.locals m' ((D, dictP prog w oct kvs') :: (lMu a1 a2 a3 a4 a5 a6 a7 v1 v2 (some (.ref Rw)) v4 v5 v6 v7 ++ tl)) s' → Q .next s') :
    wpAny (model prog w) A (exec (b20 2) env) Q E s := by
  have hh : A.handled = none := hr.hd
  obtain ⟨vs, v, ws, hRw, hvi, hws, hwt⟩ := X.row hi
  have hwl : ws.length = (rowAt rows i).length := hwt.length.symm
  have h6i := X.six hi
  have hgi := X.good hi
  have h6 := X.rowsF.high
  generalize hlm : lMu a1 a2 a3 a4 a5 a6 a7 v1 v2 (some (.ref Rw)) v4 v5 v6 v7 ++ tl = lm at S h
  refine forS (fun t F m' mu' => ∃ kvs' mm, mm = max cc ((rowAt rows i).length - t) ∧ mu' = (D, dictP prog w oct kvs') :: lm ∧ Keeps ["here", "step"] m m' ∧ (∃ th', m' "here" = some (tx oct (plainT r ((rowAt rows i).take mm)) th')) ∧
    PassedIs (l ++ ((List.range ((rowAt rows i).length - mm)).map fun u => (rowAt rows i).take ((rowAt rows i).length - u)).map (plainT r)) kvs') ?_
  refine cT1 (fun _ h => ldB S B G he h) (wpAny_BinOp (cB1 (fun _ h => ldB S B G he h) ?_))
  refine subS (ldc' (a := a3) he (by rw [hc.e]; rfl) (S.cell (v := some (.ref Rw)) (by rw [← hlm]; simp [lMu])) (ld' S he hst ⟨_, _, _, _, _, i, ti, S, hRw, rfl, by omega, hvi, ?_⟩))
  refine lenS S hws (by omega) fun s2 t2 S2 => constI S2 fun s3 t3 S3 => addI S3 fun s4 t4 S4 => ?_
  rw [show ((ws.length : Int) + 1) = (((rowAt rows i).length + 1 : Nat) : Int) by omega]
  refine range1 S4 (by omega) fun rg F1 s5 hle1 S5 hit => ?_
  refine ⟨_, _, _, _, _, _, S5, hit _ hh, ⟨kvs, (rowAt rows i).length, by omega, rfl, Keeps.refl, ⟨th, by rw [List.take_length]; exact hhm⟩, ?_⟩, ?_, ?_⟩
  · rw [Nat.sub_self]; simpa using hP
  · rintro t v I K m2 F2 mu2 s6 ht ⟨tv, rfl⟩ hle2 ⟨kvs2, mm, hmm, rfl, hK, ⟨th2, hh2⟩, hP2⟩ S6
    refine wpAny_assign_Name (st' S6 he fun s7 S7 => ?_)
    have hK7 : Keeps ["here", "step"] m (upd m2 "step" (.int (t : Nat) tv)) := hK.upd (by decide) _
    have hg1 := hgi.take mm
    have hg2 := hgi.take cc
    have hmml : mm ≤ (rowAt rows i).length := by omega
    refine execsNext (wpAny_mono (Q := fun f s' => f = .next ∧ ∃ m' F'' mu'', F2.Le F'' ∧ St (cx H F0 s0) F'' env.locals m' ((I, K) :: mu'') s' ∧ (∃ kvs' mm, mm = max cc ((rowAt rows i).length - (t + 1)) ∧ mu'' = (D, dictP prog w oct kvs') :: lm ∧ Keeps ["here", "step"] m m' ∧ (∃ th', m' "here" = some (tx oct (plainT r ((rowAt rows i).take mm)) th')) ∧
      PassedIs (l ++ ((List.range ((rowAt rows i).length - mm)).map fun u => (rowAt rows i).take ((rowAt rows i).length - u)).map (plainT r)) kvs')) ?_ (fun f s' hq => ?_) fun _ _ e => e)
    · refine wpAny_If (wpAny_isTrue_Compare1 (ld' S7 he hh2 (ld' S7 he (hK7.get hcm) (neT (plain_byt r hg1) (plain_byt r hg2) (wpAny_truthy_bool ?_)))))
      by_cases hmc : mm = cc
      · rw [decide_eq_false (by rw [hmc]; simp), if_neg Bool.false_ne_true]
        exact wpAny_execs_nil ⟨rfl, _, F2, _, .refl _, S7, kvs2, mm, by omega, rfl, hK7, ⟨th2, hh2⟩, hP2⟩
      · have hne : plainT r ((rowAt rows i).take mm) ≠ plainT r ((rowAt rows i).take cc) := fun e => by
          have := congrArg List.length (plain_inj hg1 hg2 e)
          rw [List.length_take, List.length_take] at this; omega
        rw [decide_eq_true hne, if_pos rfl]
        obtain ⟨k, rfl⟩ : ∃ k, mm = k + 1 := ⟨mm - 1, by omega⟩
        obtain ⟨p, hp, htk⟩ := take_last (l := rowAt rows i) (k := k) (by omega)
        have hpl := plain_len r hg1 (by rw [List.length_take]; omega)
        refine execsNext (passStep (l := l ++ ((List.range ((rowAt rows i).length - (k + 1))).map fun u => (rowAt rows i).take ((rowAt rows i).length - u)).map (plainT r)) he S7.swap23 hD (hK7.get hpm) hh2 (plain_byt r hg1) hP2 (by simp; omega) fun s8 kvs8 hP8 S8 => ⟨rfl, ?_⟩)
        refine execsNext (wpAny_Assign_Name ?_)
        refine cF1 S8 rfl B X15 he (ld' S8 he hh2 ⟨⟨_, _, S8⟩, ?_⟩)
        rw [htk] at hg1 hpl ⊢
        refine callS S8 (dirnameC B G X15 X9 X13 S8.pre (hr.le (by omega)) oct _ th2 (plain_byt r hg1) (by omega) (upTo_lt hg1)) fun v F3 s9 hle3 S9 hv => ?_
        obtain ⟨t9, rfl⟩ := hv
        rw [dir_plain hg1]
        refine st' S9 he fun s10 S10 => ⟨rfl, wpAny_execs_nil ⟨rfl, _, F3, _, hle3, S10.swap23, kvs8, k, by omega, rfl, hK7.upd (by decide) _, ⟨t9, rfl⟩, ?_⟩⟩
        have e1 : (rowAt rows i).length - k = ((rowAt rows i).length - (k + 1)) + 1 := by omega
        rw [e1, range_snoc, List.map_append, ← List.append_assoc]
        have e2 : (rowAt rows i).length - ((rowAt rows i).length - (k + 1)) = k + 1 := by omega
        rw [e2]
        exact hP8
    · obtain ⟨rfl, hq⟩ := hq
      exact ⟨rfl, wpAny_execs_nil hq⟩
  · rintro F2 m2 mu2 s6 hle2 ⟨kvs2, mm, hmm, rfl, hK, ⟨th2, hh2⟩, hP2⟩ S6
    have hmc : mm = cc := by omega
    subst hmc
    exact h F2 s6 m2 kvs2 th2 (hle1.trans hle2) hK hh2 hP2 S6
end
end Mine
end

section
/-! W18: law: the walk down. -/
set_option maxRecDepth 100000
set_option maxHeartbeats 4000000
namespace Mine
open PySem PySem.Calls PyProof.Rows PySem.W PySem.Builtin

section
variable {prog : Program} {w : World} {A : Around} {E : Value → Shared → Prop} {H : Heap} {mg mb : PySem.Str → Option Value} {F : Fz} {m : PySem.Str → Option Value} {mu : Mu} {s s0 : Shared} {env : Env} {a1 a2 a3 a4 a5 a6 a7 : Addr} {F0 : Fz} {Q : Flow → Shared → Prop} {c : Cx}

/-- for name in rows[goal][..:]: .. -/
theorem down20 {f14 f20 f9 f13 : Addr} {d14 d20 d9 d13 : FuncData} (B : Bs H mg mb) (G : Gl mg) (X14 : FnAt H mg "join" (nth 14) f14 d14) (X20 : FnAt H mg "_law_kind" (nth 20) f20 d20) (X9 : FnAt H mg "fspath" (nth 9) f9 d9) (X13 : FnAt H mg "_get_sep" (nth 13) f13 d13) (he : EnvOk env (fScope lawSt)) (hr : Rm A 30) (hc : LCells env a1 a2 a3 a4 a5 a6 a7)
    {oct r : Bool} {pss rows : List (List T)} {Rw C Pl D : Addr} {kvs : List (T × Value)} {l : List T} {tl : Mu} {v1 v4 v5 v6 v7 : Option Value} {j cc : Nat} {tj th tc ts : Tok}
    (S : St (cx H F0 s0) F env.locals m ((D, dictP prog w oct kvs) :: (lMu a1 a2 a3 a4 a5 a6 a7 v1 (some (.bool oct)) (some (.ref Rw)) v4 v5 v6 v7 ++ tl)) s) (X : LawX F oct r pss rows Rw C Pl)
    (hD : (D == sysModules) = false) (hpm : m "passed" = some (.ref D)) (hgm : m "goal" = some (.int (j : Nat) tj)) (hj : j < rows.length) (hhm : m "here" = some (tx oct (plainT r ((rowAt rows j).take cc)) th)) (hcm : m "common" = some (tx oct (plainT r ((rowAt rows j).take cc)) tc)) (hsl : m "slash" = some (tx oct [47] ts)) (hcc : cc ≤ (rowAt rows j).length)
    (hP : PassedIs l kvs) (hz : l.length ≤ 800)
    (h : ∀ F' s' m' kvs' th', F.Le F' → Keeps ["here", "name"] m m' → m' "here" = some (tx oct (plainT r (rowAt rows j)) th') → PassedIs (l ++ (downs (rowAt rows j) cc).map (plainT r)) kvs' →
      St (cx H F0 s0) F' env.locals m' ((D, dictP prog w oct kvs') :: (lMu a1 a2 a3 a4 a5 a6 a7 v1 (some (.bool oct)) (some (.ref Rw)) v4 v5 v6 v7 ++ tl)) s' → Q .next s') :
    wpAny (model prog w) A (exec (b20 4) env) Q E s := by
  have hh : A.handled = none := hr.hd
  obtain ⟨vs, v, ws, hRw, hvj, hws, hwt⟩ := X.row hj
  have hwl : ws.length = (rowAt rows j).length := hwt.length.symm
  have h6j := X.six hj
  have hgj := X.good hj
  have h6 := X.rowsF.high
  have hgc := hgj.take cc
  have hcb := plain_byt r hgc
  have hcz := plain_len r hgc (by rw [List.length_take]; omega)
  generalize hlm : lMu a1 a2 a3 a4 a5 a6 a7 v1 (some (.bool oct)) (some (.ref Rw)) v4 v5 v6 v7 ++ tl = lm at S h
  refine forS (fun u F m' mu' => ∃ kvs', mu' = (D, dictP prog w oct kvs') :: lm ∧ Keeps ["here", "name"] m m' ∧ (∃ th', m' "here" = some (tx oct (plainT r ((rowAt rows j).take (cc + u))) th')) ∧
    PassedIs (l ++ ((List.range u).map fun t => (rowAt rows j).take (cc + 1 + t)).map (plainT r)) kvs') ?_
  refine sliceB ?_
  refine subS (ldc' (a := a3) he (by rw [hc.e]; rfl) (S.cell (v := some (.ref Rw)) (by rw [← hlm]; simp [lMu])) (ld' S he hgm ⟨_, _, _, _, _, j, tj, S, hRw, rfl, by omega, hvj, ?_⟩))
  refine evalPart_some_step ?_
  refine cntE (c := cx H F0 s0) (l := plainT r ((rowAt rows j).take cc)) (oct := oct) (tc := tc) (ts := ts) B G he hh S hcm hsl hcb (by omega) fun F1 s2 t2 hle1 S2 => ?_
  rw [plain_split hgc, List.length_take, Nat.min_eq_left hcc]
  refine evalPart_none_step ?_
  refine ⟨_, _, _, ws, some cc, none, S2, hws.le hle1, by omega, .int _ _, .none, fun ac F2 s3 hle2 S3 hac => ?_⟩
  have e1 : cutL ws (some cc) none = ws.drop cc := by
    unfold cutL
    simp only [Option.getD_some, Option.getD_none]
    rw [List.take_of_length_le (by rw [List.length_drop]; omega)]
  rw [e1] at hac
  refine ⟨_, _, _, _, _, _, S3, itList hh hac, ⟨kvs, rfl, Keeps.refl, ⟨th, hhm⟩, by simpa using hP⟩, ?_, ?_⟩
  · rintro u v I K m2 F3 mu2 s4 hu hvu hle3 ⟨kvs2, rfl, hK, ⟨th2, hh2⟩, hP2⟩ S4
    rw [List.length_drop] at hu
    obtain ⟨p, hp, htk⟩ := take_last (l := rowAt rows j) (k := cc + u) (by omega)
    obtain ⟨tp, htp⟩ := hwt.at hp
    have hv : v = tx false p tp := by
      rw [List.getElem?_drop, htp] at hvu
      exact (Option.some.inj hvu).symm
    subst hv
    have hpp := (hgj p (List.mem_of_getElem? hp)).1
    have hps := hpp.short
    refine wpAny_assign_Name (st' S4 he fun s5 S5 => ?_)
    have hK5 : Keeps ["here", "name"] m (upd m2 "name" (tx false p tp)) := hK.upd (by decide) _
    have hg1 := hgj.take (cc + u)
    have hg2 := hgj.take (cc + u + 1)
    have hpl1 := plain_len r hg1 (by rw [List.length_take]; omega)
    -- here = join(here, _law_kind(name, octets))
    refine execsNext (wpAny_Assign_Name ?_)
    refine cF2 S5 rfl B X14 he (ld' S5 he hh2 ?_)
    refine cF2 S5 rfl B X20 he (ld' S5 he rfl (ldc' (a := a2) he (by rw [hc.e]; rfl) (S5.cell (v := some (.bool oct)) (by rw [← hlm]; simp [lMu])) ⟨⟨_, _, S5⟩, ?_⟩))
    refine callS S5 (lawKindC B X20 S5.pre (hr.le (by omega)) oct p tp hpp.byt (by omega)) fun v2 F4 s6 hle4 S6 hv2 => ⟨⟨_, _, S6⟩, ?_⟩
    obtain ⟨t6, rfl⟩ := hv2
    refine callS S6 (joinC B G X14 X9 X13 S6.pre (hr.le (by omega)) oct _ p th2 t6 (plain_byt r hg1) (by omega) hpp.byt (by omega)) fun v3 F5 s7 hle5 S7 hv3 => ?_
    obtain ⟨t7, rfl⟩ := hv3
    rw [htk] at hg2
    rw [join_plain hg2, ← htk]
    refine st' S7 he fun s8 S8 => ⟨rfl, ?_⟩
    have hK8 : Keeps ["here", "name"] m (upd (upd m2 "name" (tx false p tp)) "here" (tx oct (plainT r ((rowAt rows j).take (cc + u + 1))) t7)) := hK5.upd (by decide) _
    rw [← htk] at hg2
    have hln := hwt.length
    refine execsNext (passStep (l := l ++ ((List.range u).map fun t => (rowAt rows j).take (cc + 1 + t)).map (plainT r)) he S8.swap23 hD (hK8.get hpm) rfl (plain_byt r hg2) hP2 (by simp; omega) fun s9 kvs9 hP9 S9 => ⟨rfl, wpAny_execs_nil ?_⟩)
    refine ⟨_, F5, _, hle4.trans hle5, S9.swap23, kvs9, rfl, hK8, ⟨t7, rfl⟩, ?_⟩
    rw [range_snoc, List.map_append, ← List.append_assoc]
    rw [show cc + 1 + u = cc + u + 1 by omega]
    exact hP9
  · rintro F3 m2 mu2 s4 hle3 ⟨kvs2, rfl, hK, ⟨th2, hh2⟩, hP2⟩ S4
    rw [List.length_drop] at hP2 hh2
    rw [show cc + (ws.length - cc) = (rowAt rows j).length by omega, List.take_length] at hh2
    rw [hwl] at hP2
    exact h F3 s4 m2 kvs2 th2 ((hle1.trans hle2).trans hle3) hK hh2 hP2 S4
end
end Mine
end

section
/-! W19: law: the round. -/
set_option maxRecDepth 100000
set_option maxHeartbeats 400000
namespace Mine
open PySem PySem.Calls PyProof.Rows PySem.W PySem.Builtin

def asgT : Stmt → List Expr
  | .Assign ts .. => ts
  | _ => []
def asgV : Stmt → Expr
  | .Assign _ v .. => v
  | _ => default
theorem swapped20 {env : Env} (he : EnvOk env (fScope lawSt)) : swappedStores (asgT (b20 0)) (asgV (b20 0)) env = pure (some [("start" : PySem.Str), ("goal" : PySem.Str)]) := by
  have h := he.scope
  cases env
  simp only at h
  subst h
  rfl

theorem perm_last {x d : Addr × (Obj → Prop)} {lm : Mu} : (d :: (lm ++ [x])).Perm (x :: d :: lm) := List.perm_append_singleton x (d :: lm)
theorem leg_len {R : Nat → List T} {i j : Nat} (h1 : (R i).length ≤ 6) (h2 : (R j).length ≤ 6) : (leg R i j).length ≤ 12 := by
  unfold leg ups downs
  simp only [List.length_append, List.length_map, List.length_range]; omega
theorem legs_len {R : Nat → List T} {n : Nat} (h : ∀ i, i < n → (R i).length ≤ 6) : ∀ (l : List Nat) (a : Nat), a < n → (∀ x ∈ l, x < n) → (legs R a l).length ≤ 12 * l.length
  | [], _, _, _ => Nat.le_refl _
  | b :: r, a, ha, hl => by
    have hb := hl b List.mem_cons_self
    have ih := legs_len h r b hb fun x hx => hl x (.tail _ hx)
    have h1 := leg_len (h a ha) (h b hb)
    rw [legs, List.length_append, List.length_cons]; omega

section
variable {prog : Program} {w : World} {A : Around} {E : Value → Shared → Prop} {H : Heap} {mg mb : PySem.Str → Option Value} {F : Fz} {m : PySem.Str → Option Value} {mu : Mu} {s s0 : Shared} {env : Env} {a1 a2 a3 a4 a5 a6 a7 : Addr} {F0 : Fz} {Q : Flow → Shared → Prop} {c : Cx}

theorem unpack2 {a : Addr} {v1 v2 : Value} {n : Nat} {Q : List Value → Shared → Prop} (hn : n = 2) (hh : A.handled = none) (S : St0 c F mu s) (ht : STup F (.ref a) [v1, v2]) (h : ∀ s', St0 c F mu s' → Q [v1, v2] s') :
    wpAny (model prog w) A (unpackItems (.ref a) n none) Q E s := by
  subst hn
  have ht' := ht.isTup S.inn
  exact unpackItems_tuple (items := [v1, v2].toArray) hh ht' fun h' hx => h _ (S.keep (s' := { s with heap := h' }) (fun b o e => hx b o (Nat.ne_of_lt (Heap.lt_size e)) e) rfl rfl)

theorem law20 {f14 f20 f15 f9 f13 : Addr} {d14 d20 d15 d9 d13 : FuncData} (B : Bs H mg mb) (G : Gl mg) (X14 : FnAt H mg "join" (nth 14) f14 d14) (X20 : FnAt H mg "_law_kind" (nth 20) f20 d20) (X15 : FnAt H mg "dirname" (nth 15) f15 d15) (X9 : FnAt H mg "fspath" (nth 9) f9 d9) (X13 : FnAt H mg "_get_sep" (nth 13) f13 d13) (he : EnvOk env (fScope lawSt)) (hr : Rm A 30) (hc : LCells env a1 a2 a3 a4 a5 a6 a7)
    {oct r : Bool} {pss rows : List (List T)} {Rw C Pl D Td O : Addr} {v1 v5 v6 : Option Value} {th tn : Tok} {p : List Nat} {ovs : List Value} {xs : List (List Int × Addr × Value)}
    (S : St (cx H F0 s0) F env.locals m ((D, dictP prog w oct []) :: lMu a1 a2 a3 a4 a5 a6 a7 v1 (some (.bool oct)) (some (.ref Rw)) (some (.int rows.length tn)) v5 v6 (some (.ref O))) s) (X : LawX F oct r pss rows Rw C Pl) (L : LM m oct C Pl Td)
    (hD : (D == sysModules) = false) (hpm : m "passed" = some (.ref D)) (hhm : m "here" = some (tx oct (plainT r (rowAt rows (before p 0))) th)) (hO : OrderIs (rowAt rows) rows.length p) (hOv : SList F (.ref O) ovs) (hN : NatsAre p ovs)
    (hT : TF prog w F Td xs) (ht : ToldIs oct r (rowAt rows) (fun a b => a < rows.length ∧ b < rows.length) xs)
    (h : ∀ F' s' m' kvs, F.Le F' → Keeps ["k", "start", "goal", "common", "step", "here", "name"] m m' → PassedIs ((legs (rowAt rows) (lastD 0 p) p).map (plainT r)) kvs →
      St (cx H F0 s0) F' env.locals m' ((D, dictP prog w oct kvs) :: lMu a1 a2 a3 a4 a5 a6 a7 v1 (some (.bool oct)) (some (.ref Rw)) (some (.int rows.length tn)) v5 v6 (some (.ref O))) s' → Q .next s') :
    wpAny (model prog w) A (exec (lawI 20) env) Q E s := by
  have hh : A.handled = none := hr.hd
  have h2 := X.rowsF.low
  have h6 := X.rowsF.high
  have hpl := hO.len
  have hpne : p ≠ [] := fun e => by rw [e] at hpl; simp at hpl; omega
  have hu : A.units + 1 < cLine := by have := (hr.le (by omega : 2 ≤ 30)).units; show _ < 9900; omega
  refine forS (fun k F m' mu' => ∃ kvs, mu' = (D, dictP prog w oct kvs) :: lMu a1 a2 a3 a4 a5 a6 a7 v1 (some (.bool oct)) (some (.ref Rw)) (some (.int rows.length tn)) v5 v6 (some (.ref O)) ∧ Keeps ["k", "start", "goal", "common", "step", "here", "name"] m m' ∧
    (∃ th', m' "here" = some (tx oct (plainT r (rowAt rows (before p k))) th')) ∧ PassedIs ((legs (rowAt rows) (lastD 0 p) (p.take k)).map (plainT r)) kvs)
    (cT1 (fun _ h => ldB S B G he h) (ldc' (a := a4) he (by rw [hc.e]; rfl) (S.cell (v := some (.int rows.length tn)) (by simp [lMu])) (range1 S (by omega) fun rg F1 s1 hle1 S1 hit1 => ?_)))
  refine ⟨_, _, _, _, _, _, S1, hit1 _ hh, ⟨[], rfl, Keeps.refl, ⟨th, hhm⟩, PassedIs.nil⟩, ?_, ?_⟩
  · rintro k v I K m2 F2 mu2 s2 hk ⟨tk, rfl⟩ hle2 ⟨kvs2, rfl, hK, ⟨th2, hh2⟩, hP2⟩ S2
    have hle := hle1.trans hle2
    have X2 := X.le hle
    have hpk : p[k]? = some p[k] := List.getElem?_eq_getElem (by omega)
    have hjn : p[k] < rows.length := (hO.mem _).mp (List.getElem_mem _)
    have hin : before p k < rows.length := (hO.mem _).mp (before_mem hpne (by omega))
    generalize hj : p[k] = j at hpk hjn
    generalize hi : before p k = i at hin hh2
    obtain ⟨to, hto⟩ := hN.at hpk
    refine wpAny_assign_Name (st' S2 he fun s3 S3 => ?_)
    have hK3 : Keeps ["k", "start", "goal", "common", "step", "here", "name"] m (upd m2 "k" (.int (k : Nat) tk)) := hK.upd (by decide) _
    -- start, goal = (order[k - 1], order[k])
    refine execsNext (Assign_Tuple_swapped (hw := swapped20 he) ?_)
    refine Tuple_ ?_
    refine args_cons ?_
    refine subPrev ?_
    refine ldc' (a := a7) he (by rw [hc.e]; rfl) (S3.cell (v := some (.ref O)) (by simp [lMu])) ?_
    refine wpAny_BinOp ?_
    refine ld' S3 he rfl ?_
    refine constI S3 fun s4 t4 S4 => ?_
    refine subI S4 fun s5 t5 S5 => ?_
    refine ⟨_, _, _, ovs, p, k, t5, S5, hOv.le hle, hN, by omega, by omega, rfl, fun t6 => ?_⟩
    refine args_cons ?_
    refine subS ?_
    refine ldc' (a := a7) he (by rw [hc.e]; rfl) (S5.cell (v := some (.ref O)) (by simp [lMu])) ?_
    refine ld' S5 he rfl ?_
    refine ⟨_, _, _, _, _, k, tk, S5, hOv.le hle, rfl, by omega, hto, ?_⟩
    refine args_nil (newTupleS S5 (by simp) fun ta F3 s6 hle3 S6 _ hta => ?_)
    rw [hi] at hta
    refine unpack2 (by rfl) hh S6 hta fun s7 S7 => ?_
    show wpAny _ _ (assignInOrder [bindName env "goal", bindName env "start"] [.int (j : Nat) to, .int (i : Nat) t6]) _ _ _
    refine assign2 (bindName_ (st' S7 he fun s8 S8 => bindName_ (st' S8 he fun s9 S9 => ⟨rfl, ?_⟩)))
    have hK9 : Keeps ["k", "start", "goal", "common", "step", "here", "name"] m (upd (upd (upd m2 "k" (.int (k : Nat) tk)) "goal" (.int (j : Nat) to)) "start" (.int (i : Nat) t6)) := (hK3.upd (by decide) _).upd (by decide) _
    have L9 := hK9.lm L
    have hleT := hle.trans hle3
    have X3 := X.le hleT
    -- common = told[start, goal]
    obtain ⟨pa, tc, hat⟩ := ht i j ⟨hin, hjn⟩
    refine execsNext (wpAny_Assign_Name (toldGet hu S9 (hT.le hleT) (fun _ h => ld' S9 he L9.told h) (fun _ h => ld' S9 he rfl h) (fun _ h => ld' S9 he rfl h) hat fun F4 s10 hle4 S10 => ?_))
    refine st' S10 he fun s11 S11 => ⟨rfl, ?_⟩
    generalize hm11 : upd (upd (upd (upd m2 "k" (.int (k : Nat) tk)) "goal" (.int (j : Nat) to)) "start" (.int (i : Nat) t6)) "common" (tx oct (plainT r (lcpL (rowAt rows i) (rowAt rows j))) tc) = m11 at S11
    have hK11 : Keeps ["k", "start", "goal", "common", "step", "here", "name"] m m11 := by rw [← hm11]; exact hK9.upd (by decide) _
    have g1 : m11 "start" = some (.int (i : Nat) t6) := by rw [← hm11]; rfl
    have g2 : m11 "goal" = some (.int (j : Nat) to) := by rw [← hm11]; rfl
    have g3 : m11 "common" = some (tx oct (plainT r (lcpL (rowAt rows i) (rowAt rows j))) tc) := by rw [← hm11]; rfl
    have g4 : m11 "here" = some (tx oct (plainT r (rowAt rows i)) th2) := by rw [← hm11]; exact hh2
    have L11 := hK11.lm L
    have g5 := hK11.get hpm
    have hlcp : lcpL (rowAt rows i) (rowAt rows j) = (rowAt rows i).take (lcpL (rowAt rows i) (rowAt rows j)).length := lcpL_take _ _
    have hlcp2 : (rowAt rows i).take (lcpL (rowAt rows i) (rowAt rows j)).length = (rowAt rows j).take (lcpL (rowAt rows i) (rowAt rows j)).length := lcp_takes (Nat.le_refl _)
    have hci := lcpL_le_l (rowAt rows i) (rowAt rows j)
    have hcj : (lcpL (rowAt rows i) (rowAt rows j)).length ≤ (rowAt rows j).length := by rw [lcpL_comm]; exact lcpL_le_l _ _
    generalize hcc : (lcpL (rowAt rows i) (rowAt rows j)).length = cc at hlcp hlcp2 hci hcj
    rw [hlcp] at g3
    have X4 := X3.le hle4
    have hgc := (X.good hin).take cc
    have hll : (legs (rowAt rows) (lastD 0 p) (p.take k)).length ≤ 72 := by
      have := legs_len (R := rowAt rows) (n := rows.length) (fun i hi => X.six hi) (p.take k) (lastD 0 p) ((hO.mem _).mp (lastD_in 0 hpne)) fun x hx => (hO.mem x).mp (List.mem_of_mem_take hx)
      rw [List.length_take] at this; omega
    -- up
    have S12 : St (cx H F0 s0) F4 env.locals m11 ((D, dictP prog w oct kvs2) :: (lMu a1 a2 a3 a4 a5 a6 a7 v1 (some (.bool oct)) (some (.ref Rw)) (some (.int rows.length tn)) v5 v6 (some (.ref O)) ++ [(I, K)])) s11 :=
      S11.perm (List.Perm.cons _ (List.perm_append_comm (l₁ := [(I, K)])))
    refine execsNext (up20 (l := (legs (rowAt rows) (lastD 0 p) (p.take k)).map (plainT r)) B G X15 X9 X13 he hr hc S12 X4 hD g5 g1 hin g4 g3 hci hP2 (by rw [List.length_map]; omega) fun F5 s13 m13 kvs13 th13 hle5 hK13 g13 hP13 S13 => ⟨rfl, ?_⟩)
    -- if here != common
    refine execsNext (wpAny_If (wpAny_isTrue_Compare1 (ld' S13 he g13 (ld' S13 he (hK13.get g3) (neT (plain_byt r hgc) (plain_byt r hgc) (wpAny_truthy_bool ?_))))))
    rw [decide_eq_false (by simp), if_neg Bool.false_ne_true]
    refine wpAny_execs_nil ⟨rfl, ?_⟩
    -- down
    have L13 := hK13.lm L11
    obtain ⟨ts, hsl⟩ := L13.slash
    have hul : (ups (rowAt rows i) cc).length ≤ 6 := by unfold ups; have := X.six hin; simp; omega
    rw [hlcp2] at g13 g3
    refine execsNext (down20 (l := (legs (rowAt rows) (lastD 0 p) (p.take k)).map (plainT r) ++ (ups (rowAt rows i) cc).map (plainT r)) B G X14 X20 X9 X13 he hr hc S13 (X4.le hle5) hD (hK13.get g5) (hK13.get g2) hjn g13 (hK13.get g3) hsl hcj hP13 (by simp; omega) fun F6 s14 m14 kvs14 th14 hle6 hK14 g14 hP14 S14 => ⟨rfl, ?_⟩)
    -- if here != plain[goal]
    have X6 := (X4.le hle5).le hle6
    obtain ⟨pvs, hpv, hpt⟩ := X6.plain
    obtain ⟨tp, htp⟩ := hpt.at (i := j) (p := plainT r (rowAt rows j)) (by rw [List.getElem?_map, rowAt_get hjn]; rfl)
    have L14 := hK14.lm L13
    refine execsNext (wpAny_If (wpAny_isTrue_Compare1 (ld' S14 he g14 (subS (ld' S14 he L14.plain (ld' S14 he (hK14.get (hK13.get g2)) ⟨_, _, _, _, _, j, to, S14, hpv, rfl, by omega, htp, ?_⟩))))))
    refine neT (plain_byt r (X.good hjn)) (plain_byt r (X.good hjn)) (wpAny_truthy_bool ?_)
    rw [decide_eq_false (by simp), if_neg Bool.false_ne_true]
    refine wpAny_execs_nil ⟨rfl, wpAny_execs_nil ?_⟩
    refine ⟨m14, F6, _, hle3.trans (hle4.trans (hle5.trans hle6)), S14.perm (List.Perm.cons _ perm_last), kvs14, rfl, fun x hx => ?_, ⟨th14, ?_⟩, ?_⟩
    · rw [hK14 x fun q => hx (by revert q; simp; rintro (rfl | rfl) <;> simp), hK13 x fun q => hx (by revert q; simp; rintro (rfl | rfl) <;> simp)]
      exact hK11 x hx
    · rw [before_succ hpk]; exact g14
    · rw [take_snoc hpk, legs_snoc, List.map_append]
      have e : lastD (lastD 0 p) (p.take k) = i := hi
      rw [e]
      unfold leg
      rw [hcc, List.map_append, ← List.append_assoc]
      exact hP14
  · rintro F2 m2 mu2 s2 hle2 ⟨kvs2, rfl, hK, ⟨th2, hh2⟩, hP2⟩ S2
    rw [List.take_of_length_le (by omega)] at hP2
    exact h F2 s2 m2 kvs2 (hle1.trans hle2) hK hP2 S2
end
end Mine
end

section
/-! W20: law: the last answer. -/
set_option maxRecDepth 100000
set_option maxHeartbeats 400000
namespace Mine
open PySem PySem.Calls PyProof.Rows PySem.W PySem.Builtin

theorem count_map {α β : Type} [BEq α] [LawfulBEq α] [BEq β] [LawfulBEq β] (g : α → β) (f : α) : ∀ (l : List α), (∀ x ∈ l, g x = g f → x = f) → (l.map g).count (g f) = l.count f
  | [], _ => rfl
  | a :: l, h => by
    have ih := count_map g f l fun x hx => h x (.tail _ hx)
    rw [List.map_cons, List.count_cons, List.count_cons, ih]
    by_cases e : a = f
    · subst e; simp
    · have : ¬ g a = g f := fun q => e (h a List.mem_cons_self q)
      simp [e, this]
theorem nodup_map {α β : Type} (g : α → β) : ∀ {l : List α}, l.Nodup → (∀ x ∈ l, ∀ y ∈ l, g x = g y → x = y) → (l.map g).Nodup
  | [], _, _ => List.nodup_nil
  | a :: l, h, hg => by
    obtain ⟨h1, h2⟩ := List.nodup_cons.mp h
    rw [List.map_cons]
    refine List.nodup_cons.mpr ⟨fun hm => ?_, nodup_map g h2 fun x hx y hy => hg x (.tail _ hx) y (.tail _ hy)⟩
    obtain ⟨x, hx, e⟩ := List.mem_map.mp hm
    have := hg x (.tail _ hx) a List.mem_cons_self e
    rw [this] at hx
    exact h1 hx

theorem passed_end {r : Bool} {ks L : List (List T)} {kvs : List (T × Value)} (hg : ∀ f ∈ ks, GoodN f) (hnd : ks.Nodup) (h1 : ∀ f ∈ ks, L.count f = 2) (h2 : ∀ f ∈ L, f ∈ ks) (hP : PassedIs (L.map (plainT r)) kvs) :
    kvs.length = ks.length ∧ ∀ (i : Nat) (k : T) (x : Value), kvs[i]? = some (k, x) → ∃ t, x = .int 2 t := by
  have key : ∀ k x, (k, x) ∈ kvs → ∃ f ∈ ks, k = plainT r f ∧ ∃ t, x = .int 2 t := by
    intro k x hkx
    obtain ⟨i, hi, e⟩ := List.mem_iff_getElem.mp hkx
    have hv := valueAt_of_get hP.nd (i := i) (k := k) (v := x) (by rw [List.getElem?_eq_getElem hi, e])
    by_cases hm : k ∈ L.map (plainT r)
    · obtain ⟨f, hf, rfl⟩ := List.mem_map.mp hm
      obtain ⟨t, ht⟩ := hP.yes _ hm
      rw [hv] at ht
      have hfk := h2 f hf
      refine ⟨f, hfk, rfl, t, ?_⟩
      rw [Option.some.inj ht, count_map (plainT r) f L fun x hx e => plain_inj (hg x (h2 x hx)) (hg f hfk) e, h1 f hfk]
      rfl
    · rw [hP.no k hm] at hv; cases hv
  refine ⟨?_, fun i k x hi => ?_⟩
  · have hp : (kvs.map (·.1)).Perm (ks.map (plainT r)) := by
      refine (List.perm_ext_iff_of_nodup hP.nd (nodup_map _ hnd fun x hx y hy e => plain_inj (hg x hx) (hg y hy) e)).mpr fun k => ?_
      constructor
      · intro hk
        obtain ⟨⟨k', x⟩, hkx, rfl⟩ := List.mem_map.mp hk
        obtain ⟨f, hf, e, _⟩ := key k' x hkx
        exact List.mem_map.mpr ⟨f, hf, e.symm⟩
      · intro hk
        obtain ⟨f, hf, rfl⟩ := List.mem_map.mp hk
        have hfl : f ∈ L := List.count_pos_iff.mp (by rw [h1 f hf]; decide)
        obtain ⟨t, ht⟩ := hP.yes _ (List.mem_map.mpr ⟨f, hfl, rfl⟩)
        unfold valueAt at ht
        obtain ⟨y, hy, _⟩ := Option.map_eq_some_iff.mp ht
        have hy1 := List.find?_some hy
        have hy2 := List.mem_of_find?_eq_some hy
        refine List.mem_map.mpr ⟨y, hy2, by simpa using hy1⟩
    have := hp.length_eq
    simpa using this
  · obtain ⟨f, _, _, t, ht⟩ := key k x (List.mem_of_getElem? hi)
    exact ⟨t, ht⟩

section
variable {prog : Program} {w : World} {A : Around} {E : Value → Shared → Prop} {F : Fz} {mu : Mu} {s : Shared} {c : Cx} {env : Env}

/-- the values of a dict of texts that stands still -/
theorem itVals (hh : A.handled = none) {oct : Bool} {kvs : List (T × Value)} {v D : Addr} {o : Obj} (hv : F v = some { cls := .type "dict_values", data := .fields #[.ref D] }) (hD : F D = some o) (hd : dictP prog w oct kvs o) :
    ItOf prog w A F (.ref v) kvs.length (fun i x => ∃ k, kvs[i]? = some (k, x)) := by
  obtain ⟨es, ep, d1, d2, d3, d4, d5⟩ := id hd
  intro s Q E hF hQ
  have M : ∀ h : Heap, F.In h → h.DictAt (txKind prog w oct) D kvs ep := fun h hF' => ⟨o, es, hF' _ _ hD, d1, d2, d3, d4, d5⟩
  have V : s.heap.IsValuesView v D := ⟨_, hF _ _ hv, rfl, rfl⟩
  refine wpAny_pyIter_values V (M _ hF) ?_
  refine hQ s.heap.objs.size (fun i o => o.cls = .type "dict_valueiterator" ∧ o.data = .fields #[.ref D, .int i 0, .int kvs.length 0, .int ep 0]) _ s.toks (get_none_size _) (fun b o e => Heap.get?_push_of_some _ e) ⟨_, Heap.get?_push_size _ rfl, rfl, rfl⟩ ⟨?_, ?_, ?_, ?_⟩
  · rintro i hi s' Q E hF' ⟨o, ho, hc, hd⟩ hq
    obtain ⟨k, x, hkx⟩ : ∃ k x, kvs[i]? = some (k, x) := ⟨_, _, List.getElem?_eq_getElem hi⟩
    refine wpAny_pyNext_values_item ⟨o, ho, hc, hd⟩ (M _ hF') hkx fun h' hit hs => ?_
    obtain ⟨o', ho', hc', hd'⟩ := hit
    exact hq x h' s'.toks ⟨k, hkx⟩ (fun b o hb e => (hs.2 b hb).trans e) ⟨o', ho', hc', hd'⟩
  · rintro s' Q E hF' ⟨o, ho, hc, hd⟩ hq
    exact wpAny_pyNext_values_end hh ⟨o, ho, hc, hd⟩ (M _ hF') (by simp) fun h' hs => hq h' s'.toks fun b o hb e => hs b o hb e
  · rintro s' Q E hF' ⟨o, ho, hc, hd⟩ hq
    exact wpAny_pyIter_valiter (d := D) (i := 0) (n := kvs.length) (ep := ep) ⟨o, ho, hc, hd⟩ hq
  · rintro i target v s' Q E ⟨o, ho, hc, hd⟩ hq
    exact goPlain target v ho hc (by decide) hq
end

section
variable {prog : Program} {w : World} {A : Around} {E : Value → Shared → Prop} {H : Heap} {mg mb : PySem.Str → Option Value} {F : Fz} {m : PySem.Str → Option Value} {mu : Mu} {s s0 : Shared} {env : Env} {F0 : Fz} {c : Cx}

theorem law21 {Q : Flow → Shared → Prop} (B : Bs H mg mb) (G : Gl mg) (he : EnvOk env (fScope lawSt)) (hr : Rm A 30) {oct r : Bool} {R : Nat → List T} {n sh : Nat} {p : List Nat} {D Df : Addr} {o : Obj} {ks0 : List (List T)} {kvs : List (T × Value)}
    (S : St (cx H F0 s0) F env.locals m ((D, dictP prog w oct kvs) :: mu) s) (hn2 : 2 ≤ n) (hn : n ≤ 6) (h6 : ∀ i, i < n → (R i).length ≤ 6) (hg : ∀ i, i < n → GoodN (R i)) (hp : OrderIs R n p) (hsh : SharedIs n R sh) (hF : F Df = some o) (hset : setT prog w F ks0 o) (hfo : Fold R sh n 0 ks0)
    (hD : (D == sysModules) = false) (hpm : m "passed" = some (.ref D)) (hfm : m "folders" = some (.ref Df)) (hP : PassedIs ((legs R (lastD 0 p) p).map (plainT r)) kvs)
    (h : ∀ F' s', F.Le F' → St (cx H F0 s0) F' env.locals m mu s' → Q (.ret (.bool true)) s') :
    wpAny (model prog w) A (exec (lawI 21) env) Q E s := by
  have hh : A.handled = none := hr.hd
  have hll : (legs R (lastD 0 p) p).length ≤ 72 := by
    have hpne : p ≠ [] := fun e => by have := hp.len; rw [e] at this; simp at this; omega
    have := legs_len h6 p (lastD 0 p) ((hp.mem _).mp (lastD_in 0 hpne)) fun x hx => (hp.mem x).mp hx
    rw [hp.len] at this; omega
  have hkl : kvs.length ≤ 72 := by have := hP.len; rw [List.length_map] at this; omega
  obtain ⟨od, hod, hleD, hFD, S1⟩ := S.swap.freeze
  refine wpAny_Return_some ?_
  refine BoolOp_and ?_
  refine wpAny_Compare1 ?_
  refine cB1 (fun _ h => ldB S1 B G he h) ?_
  refine ld' S1 he hpm ?_
  refine call_len_dict hD (Heap.dictOf_iff.mpr ⟨od, S1.inn _ _ hFD, hod⟩) (by omega) ?_
  have S2 := S1.tok (s.toks + 1 + 1)
  refine cB1 (fun _ h => ldB S2 B G he h) ?_
  refine ld' S2 he hfm ?_
  refine lenSetT S2 (hleD _ _ hF) (hset.mono hleD) fun k t s3 hk S3 => ?_
  obtain ⟨ks, hnd, hmem, rfl⟩ := hk
  have Fo : Folders n R sh ks := hfo.folders hnd hmem
  obtain ⟨c1, c2⟩ := round_passes hsh Fo (by omega) hp.mem hp.le 0
  have hgk : ∀ f ∈ ks, GoodN f := fun f hf => by
    obtain ⟨i, mm, hi, _, _, rfl⟩ := (Fo.mem f).mp hf
    exact (hg i hi).take mm
  obtain ⟨e1, e2⟩ := passed_end hgk hnd c1 c2 hP
  refine eqI S3 ?_
  rw [decide_eq_true (show (kvs.length : Int) = (ks.length : Int) by omega)]
  refine wpAny_truthy_bool ?_
  rw [if_pos rfl]
  refine BoolOp_one ?_
  refine wpAny_Compare1 ?_
  refine lcomp (cl := []) hh he (by rfl) (by rfl) (fun _ _ ys => ys = []) (fun _ _ _ _ _ h => h) ?_
  refine MethodCall_ ?_
  refine ld' S3 he hpm ?_
  have hDO : s3.heap.DictOf (txKind prog w oct) D kvs := Heap.dictOf_iff.mpr ⟨od, S3.inn _ _ hFD, hod⟩
  refine getMethod_builtin hDO.typeIs PySem.F.plainAttrs_dict PySem.F.slot_dict_values PySem.F.type_dict_values hDO.mapOf.noDict ?_
  refine callWith_method0 ?_
  refine call_meetsIn PySem.F.slot_dict_values hDO.typeIs PySem.F.entry_dict_values (PySem.F.args_dict_values_1 _) (meets_dict_values (txKind prog w oct) D hD) ⟨⟨kvs, hDO⟩, ?_⟩
  obtain ⟨hle4, S4⟩ := S3.pushF { cls := .type "dict_values", data := .fields #[.ref D] } rfl
  refine ⟨_, _, _, _, _, S4, itVals hh (Fz.put_self _ _ _) (hle4 _ _ hFD) hod, by omega, rfl, ?_, ?_⟩
  · rintro cenv i v I K D2 m5 F5 ys s5 heC hcC hi ⟨k, hk⟩ hle5 rfl hys S5
    obtain ⟨t5, rfl⟩ := e2 i k v hk
    refine wpAny_assign_Name (st' S5 heC fun s6 S6 => wpAny_tests_one ?_)
    refine wpAny_isTrue_Compare1 (ld' S6 heC rfl (constI S6 fun s7 t7 S7 => ne_int ?_))
    rw [show ((2 : Int) != 2) = false by decide]
    refine wpAny_truthy_bool ?_
    rw [if_neg Bool.false_ne_true]
    exact ⟨_, F5, .refl _, S7, rfl⟩
  · rintro D2 F5 ys s5 hle5 S5 hD2 rfl hlen
    refine List_ (args_nil (newListF S5 (by simp) fun e0 F6 s6 hle6 S6 he0 => ?_))
    refine eqListS S6 (hD2.le hle6) he0 (hr.le (by omega : 1 ≤ 30)).c ?_
    rw [decide_eq_true rfl]
    exact h F6 s6 (hleD.trans (hle4.trans (hle5.trans hle6))) S6
end
end Mine
end

section
/-! W21: law, whole. -/
set_option maxRecDepth 100000
set_option maxHeartbeats 1000000
namespace Mine
open PySem PySem.Calls PyProof.Rows PySem.W PySem.Builtin

section
variable {prog : Program} {w : World} {A : Around} {H : Heap} {mg mb : PySem.Str → Option Value} {F : Fz} {s : Shared}

/-- the functions of the text that law reaches -/
structure Fns (H : Heap) (mg : PySem.Str → Option Value) : Prop where
  fspath : ∃ f d, FnAt H mg "fspath" (nth 9) f d
  sep : ∃ f d, FnAt H mg "_get_sep" (nth 13) f d
  join : ∃ f d, FnAt H mg "join" (nth 14) f d
  dirname : ∃ f d, FnAt H mg "dirname" (nth 15) f d
  common : ∃ f d, FnAt H mg "commonpath" (nth 16) f d
  piece : ∃ f d, FnAt H mg "_law_piece" (nth 18) f d
  places : ∃ f d, FnAt H mg "_law_places" (nth 19) f d
  kind : ∃ f d, FnAt H mg "_law_kind" (nth 20) f d
  round : ∃ f d, FnAt H mg "_law_round" (nth 21) f d

theorem lawBody (B : Bs H mg mb) (G : Gl mg) (Y : Fns H mg) {env : Env} {s0 : Shared} {F0 : Fz} {m : PySem.Str → Option Value} {a1 a2 a3 a4 a5 a6 a7 : Addr} (he : EnvOk env (fScope lawSt)) (hr : Rm A 30) (hc : LCells env a1 a2 a3 a4 a5 a6 a7)
    (S : St (cx H F0 s0) F env.locals m (lMu a1 a2 a3 a4 a5 a6 a7 none none none none none none none) s) {l : Addr} {vs : List Value} {ns : List Int} (hm : m "script" = some (.ref l)) (hl : SList F (.ref l) vs) (hi : IntsAre vs ns) (hz : vs.length ≤ 63) {Q : Flow → Shared → Prop}
    (h : ∀ F' mu' s', St0 (cx H F0 s0) F' mu' s' → Q (.ret (.bool true)) s') :
    wpAny (model prog w) A (execs (fBody lawSt) env) Q NE s := by
  obtain ⟨f9, d9, X9⟩ := Y.fspath
  obtain ⟨f13, d13, X13⟩ := Y.sep
  obtain ⟨f14, d14, X14⟩ := Y.join
  obtain ⟨f15, d15, X15⟩ := Y.dirname
  obtain ⟨f16, d16, X16⟩ := Y.common
  obtain ⟨f18, d18, X18⟩ := Y.piece
  obtain ⟨f19, d19, X19⟩ := Y.places
  obtain ⟨f20, d20, X20⟩ := Y.kind
  obtain ⟨f21, d21, X21⟩ := Y.round
  refine execsNext (law0 B G he hr S hm hl hi hz fun F1 s1 l1 vs1 ns1 hle1 hl1 hi1 hz1 S1 => ⟨rfl, ?_⟩)
  refine execsNext (law1 B G he hr hc S1 rfl hl1 hi1 fun r s2 S2 => ⟨rfl, ?_⟩)
  refine execsNext (law2 B G he hr hc S2 rfl hl1 hi1 fun oct s3 S3 => ⟨rfl, ?_⟩)
  refine execsNext (law3 he hc S3 fun ts s4 S4 => ⟨rfl, ?_⟩)
  refine execsNext (law4 B G X19 X18 he hr S4 rfl hl1 hi1 hz1 fun v pss F5 s5 hle5 hps S5 => ⟨rfl, ?_⟩)
  refine execsNext (law5 he hr hc S5 rfl hps fun Rw F6 s6 ys6 hle6 hRw hys6 S6 => ⟨rfl, ?_⟩)
  have hps6 := hps
  have hrows := hps.rows hRw hys6
  generalize hrw : pss.map keepR = rows at hrows
  have hpsF : Places F6 v pss := by
    obtain ⟨zs, z1, z2⟩ := hps.is
    exact ⟨⟨zs, z1.le hle6, z2.le hle6⟩, hps.low, hps.high, hps.short, hps.piece⟩
  refine execsNext (law6 B X20 he hr hc S6 rfl hpsF fun C F7 s7 ys7 hle7 hC hys7 S7 => ⟨rfl, ?_⟩)
  refine execsNext (law7 B X20 he hr hc S7 (hrows.le hle7) fun Pl F8 s8 ys8 hle8 hPl hys8 S8 => ⟨rfl, ?_⟩)
  have X : LawX F8 oct r pss rows Rw C Pl := ⟨hrw.symm, (hrows.le hle7).le hle8, hps.piece, hps.short, ⟨ys7, hC.le hle8, hys7⟩, ⟨ys8, hPl, hys8⟩⟩
  refine execsNext (law8 B G he hc S8 X.rowsF fun tn s9 S9 => ⟨rfl, ?_⟩)
  have h2 := X.rowsF.low
  have h6 := X.rowsF.high
  refine execsNext (law9 B G he hr hc S9 h6 fun D F10 s10 bs hle10 hD hbl hbe S10 => ⟨rfl, ?_⟩)
  refine execsNext (law10 he S10 fun Td s11 S11 => ⟨rfl, ?_⟩)
  refine execsNext (law11 B G X16 X9 he hr hc S11 (X.le hle10) ⟨rfl, rfl, rfl, ⟨ts, rfl⟩⟩ hD hbl hbe fun F12 s12 m12 xs hle12 S12 L12 ht12 hM12 => ⟨rfl, ?_⟩)
  obtain ⟨F13, hle13, S13, hT13⟩ := told_freeze S12
  refine execsNext (law12 he hc S13 fun t0 s14 S14 => ⟨rfl, ?_⟩)
  have X13' := X.le (hle10.trans (hle12.trans hle13))
  refine execsNext (law13 B G he hr hc S14 X13' fun F15 s15 sh tsh hle15 hsh S15 => ⟨rfl, ?_⟩)
  have X15' := X13'.le hle15
  refine execsNext (law14 B G he hr hc S15 X15' hsh fun Df F16 s16 o hle16 hF16 hset16 S16 => ⟨rfl, ?_⟩)
  obtain ⟨ks0, hset, hfo⟩ := hset16
  have X16' := X15'.le hle16
  refine execsNext (law15 B G he hr hc S16 X16' fun O F17 s17 p ovs hle17 hO hOv hN S17 => ⟨rfl, ?_⟩)
  have X17' := X16'.le hle17
  have hM17 := hM12.le (hle13.trans (hle15.trans (hle16.trans hle17)))
  have LA : LM (upd m12 "folders" (.ref Df)) oct C Pl Td := L12.upd "folders" (.ref Df)
  refine execsNext (law16 B G he hr hc S17 h6 hO.mem hO.len hOv hN hM17 fun F18 s18 tl hle18 S18 => ⟨rfl, ?_⟩)
  have hle1618 := hle17.trans hle18
  have LB := LA.upd "length" (.int (path (dist (rowAt rows)) (lastD 0 p) p) tl)
  refine execsNext (law17 B G X21 he hr hc S18 h2 h6 hO (hM17.le hle18) rfl rfl hsh (hle1618 _ _ hF16) (hset.mono hle1618) hfo fun F19 s19 hle19 S19 => ⟨rfl, ?_⟩)
  refine execsNext (law18 (oct := oct) B he S19 fun Pd s20 hPd S20 => ⟨rfl, ?_⟩)
  have LC := LB.upd "passed" (.ref Pd)
  have X19' := X17'.le (hle18.trans hle19)
  refine execsNext (law19 he hc S20 X19' LC hO (hOv.le (hle18.trans hle19)) hN fun s21 th S21 => ⟨rfl, ?_⟩)
  have LD := LC.upd "here" (tx oct (plainT r (rowAt rows (before p 0))) th)
  have hT19 := hT13.le (hle15.trans (hle16.trans (hle17.trans (hle18.trans hle19))))
  refine execsNext (law20 B G X14 X20 X15 X9 X13 he hr hc S21 X19' LD hPd rfl rfl hO (hOv.le (hle18.trans hle19)) hN hT19 ht12 fun F22 s22 m22 kvs hle22 hK hP S22 => ⟨rfl, ?_⟩)
  have hle1622 := (hle1618.trans hle19).trans hle22
  refine wpAny_execs_cons ?_
  refine law21 B G he hr S22 h2 h6 (fun i hi => X.six hi) (fun i hi => X.good hi) hO hsh (hle1622 _ _ hF16) (hset.mono hle1622) hfo hPd (hK.get rfl) (hK.get rfl) hP fun F23 s23 hle23 S23 => ?_
  exact h F23 _ s23 S23
end
end Mine
end

section
/-! T1: what the top bears. -/
set_option maxRecDepth 100000
set_option maxHeartbeats 1000000
namespace Mine
open PySem PySem.Calls PyProof.Rows PySem.W PySem.Builtin

def fAddr (K : Frag) (x : PySem.Str) : Addr := match nsIn K mainGlobals x with
  | some (some (.ref f)) => f
  | _ => 0
def fObj (K : Frag) (x : PySem.Str) : Obj := (K.lookup (fAddr K x)).getD { cls := .none, data := .plain }
def fData (K : Frag) (x : PySem.Str) : FuncData := match (fObj K x).data with
  | .func fd => fd
  | _ => default
def IsDef (st : Stmt) : Prop := ∃ n a b d r tp sc ts bi p, st = .FunctionDef n a b d r tp sc ts bi p

/-- a function of the text, as the written heap bears it -/
structure FnIn (K : Frag) (x : PySem.Str) (st : Stmt) : Prop where
  h1 : nsIn K mainGlobals x = some (some (.ref (fAddr K x)))
  h2 : K.lookup (fAddr K x) = some (fObj K x)
  h3 : (fObj K x).data = .func (fData K x)
  h4 : codeIn K (fData K x).code (fData K x).qualname = true
  h0 : IsDef st
  h5 : (fData K x).params = fArgs st
  h6 : (fData K x).body = .stmts (fBody st)
  h7 : (fData K x).scope = fScope st
  h8 : (fData K x).globals = mainGlobals
  h9 : (fData K x).builtins = builtinsNs
  h10 : (fData K x).closure = []
  h11 : (fData K x).defaults = .none
  h12 : (fData K x).kwdefaults = .none
theorem FnIn.at' {K : Frag} {x : PySem.Str} {st : Stmt} {H : Heap} {mg : PySem.Str → Option Value} (X : FnIn K x st) (KX : K.In H) (G : H.Ns mainGlobals mg) : FnAt H mg x st (fAddr K x) (fData K x) := by
  obtain ⟨n, a, b, d, r, tp, sc, ts, bi, p, rfl⟩ := X.h0
  exact ⟨mg_of KX G X.h1, ⟨_, KX _ _ X.h2, X.h3⟩, codeRec_of KX X.h4, X.h5, X.h6, X.h7, X.h8, X.h9, X.h10, X.h11, X.h12⟩

/-- all that the law wants of the written heap -/
structure TopIn (K : Frag) : Prop where
  fspath : FnIn K "fspath" (nth 9)
  sep : FnIn K "_get_sep" (nth 13)
  join : FnIn K "join" (nth 14)
  dirname : FnIn K "dirname" (nth 15)
  common : FnIn K "commonpath" (nth 16)
  piece : FnIn K "_law_piece" (nth 18)
  places : FnIn K "_law_places" (nth 19)
  kind : FnIn K "_law_kind" (nth 20)
  round : FnIn K "_law_round" (nth 21)
  law : FnIn K "law" (nth 22)
  free : ∀ x : PySem.Str, x ∈ (["isinstance", "bytes", "str", "type", "issubclass", "len", "min", "max", "enumerate", "range", "tuple", "map", "sorted", "sum", "chr", "list"] : List PySem.Str) → nsIn K mainGlobals x = some none
theorem TopIn.fns {K : Frag} {H : Heap} {mg : PySem.Str → Option Value} (X : TopIn K) (KX : K.In H) (G : H.Ns mainGlobals mg) : Fns H mg :=
  ⟨⟨_, _, X.fspath.at' KX G⟩, ⟨_, _, X.sep.at' KX G⟩, ⟨_, _, X.join.at' KX G⟩, ⟨_, _, X.dirname.at' KX G⟩, ⟨_, _, X.common.at' KX G⟩, ⟨_, _, X.piece.at' KX G⟩, ⟨_, _, X.places.at' KX G⟩, ⟨_, _, X.kind.at' KX G⟩, ⟨_, _, X.round.at' KX G⟩⟩
theorem TopIn.gl {K : Frag} {H : Heap} {mg : PySem.Str → Option Value} (X : TopIn K) (KX : K.In H) (G : H.Ns mainGlobals mg) : Gl mg := ⟨fun x hx => mg_none_of KX G (X.free x hx)⟩

section
variable {prog : Program} {w : World} {A : Around}

theorem lawC {H : Heap} {mg mb : PySem.Str → Option Value} {F : Fz} {s : Shared} {f : Addr} {fd : FuncData} (B : Bs H mg mb) (G : Gl mg) (Y : Fns H mg) (X : FnAt H mg "law" (nth 22) f fd) (p : Pre H F s) (hr : Rm A 31) (l : Addr) (vs : List Value) (ns : List Int)
    (hl : SList F (.ref l) vs) (hi : IntsAre vs ns) (hz : vs.length ≤ 63) :
    codeAny (model prog w) A (.call (.ref f) ⟨[.ref l], []⟩) (Res s F fun _ v => v = .bool true) s := by
  refine enterC B X p hr (X.bindW (binds := [("script", .ref l)]) (fun _ _ _ _ _ _ _ _ _ _ _ _ => rfl) ?_)
  refine ⟨F, .refl _, p.start, ?_, fun env s₂ he hc S₂ hr' => ?_⟩
  · intro x hx
    rw [List.mem_singleton.mp hx]
    exact .inl rfl
  have ec : env.cells = [(("order" : PySem.Str), env.locals + 1 + 1 + 1 + 1 + 1 + 1 + 1), (("shared" : PySem.Str), env.locals + 1 + 1 + 1 + 1 + 1 + 1), (("steps" : PySem.Str), env.locals + 1 + 1 + 1 + 1 + 1), (("count" : PySem.Str), env.locals + 1 + 1 + 1 + 1), (("rows" : PySem.Str), env.locals + 1 + 1 + 1), (("octets" : PySem.Str), env.locals + 1 + 1), (("rooted" : PySem.Str), env.locals + 1)] := by rw [hc]; rfl
  rw [ec] at S₂
  generalize env.locals + 1 + 1 + 1 + 1 + 1 + 1 + 1 = a7 at ec S₂
  generalize env.locals + 1 + 1 + 1 + 1 + 1 + 1 = a6 at ec S₂
  generalize env.locals + 1 + 1 + 1 + 1 + 1 = a5 at ec S₂
  generalize env.locals + 1 + 1 + 1 + 1 = a4 at ec S₂
  generalize env.locals + 1 + 1 + 1 = a3 at ec S₂
  generalize env.locals + 1 + 1 = a2 at ec S₂
  generalize env.locals + 1 = a1 at ec S₂
  replace S₂ : St (cx H F s) F env.locals _ (lMu a1 a2 a3 a4 a5 a6 a7 none none none none none none none) s₂ := S₂
  exact lawBody B G Y he hr' ⟨ec⟩ S₂ rfl hl hi hz fun F' mu' s' S' => ⟨mu', F', S', rfl⟩

theorem room_caller : Rm callerA 31 := ⟨rfl, by decide, by decide⟩

/-- the call, from the caller -/
theorem lawTop {K : Frag} {s₁ : Shared} {mg mb : PySem.Str → Option Value} (X : TopIn K) (KX : K.In s₁.heap) (hg : s₁.heap.Ns mainGlobals mg) (hb : s₁.heap.Ns builtinsNs mb) (hlim : s₁.heap.NoLimit) (hbi : ∀ x : PySem.Str, x ≠ "__name__" → mb x = bootBuiltins x)
    {fa l : Addr} {vs us : List Value} {ns : List Int} (hfa : mg "law" = some (.ref fa)) (hgens : s₁.gens = #[]) (ho : s₁.heap.get? l = some { cls := .type "list", data := .seq us.toArray }) (hL : s₁.heap.IsList l vs.toArray) (hi : IntsAre vs ns) (hc : ¬ (63 : Int) < (ns.length : Int)) :
    codeAny (model prog w) callerA (.call (.ref fa) ⟨[.ref l], []⟩) (fun r s' => r = .ok (.ret (.bool true)) ∧ (∀ b o, s₁.heap.get? b = some o → s'.heap.get? b = some o) ∧ s'.os = s₁.os ∧ s'.gens = #[]) s₁ := by
  have hz : vs.length ≤ 63 := by have := hi.length; omega
  have huv : us = vs := by
    obtain ⟨o2, ho2, _, n2, hd2⟩ := hL
    rw [ho] at ho2
    cases ho2
    injection hd2 with h1 h2
    simpa using h1
  subst huv
  have XL := X.law.at' KX hg
  have e : fa = fAddr K "law" := by
    have := XL.at'
    rw [hfa] at this
    cases this; rfl
  subst e
  refine codeAny_mono (lawC (H := s₁.heap) (mb := mb) (F := fun b => s₁.heap.get? b) ⟨hg, hb, hlim, hbi⟩ (X.gl KX hg) (X.fns KX hg) XL ⟨fun _ _ e => e, fun _ _ e => e, hgens⟩ room_caller l us ns ⟨l, _, rfl, ho, rfl, rfl, _, rfl⟩ hi hz) ?_
  rintro r s' ⟨v, F', rfl, O, rfl⟩
  exact ⟨rfl, O.old, O.os, O.gens.trans hgens⟩
end
end Mine
end

open PySem PySem.W PyProof.Rows
set_option maxRecDepth 100000 in
set_option maxHeartbeats 8000000 in
theorem PySem.Challenge.cw_dh5005_01_holds : PySem.Challenge.rw_dh5005_01.Holds := by
  w_on
  o_law
  k_head
  case hw => w_witness2
  k_fill
  intro w s₀ s₁ mg mb G Y fa o pm cd doc dV kV ho hd hcd hD hmg hg args vals as hpre hlay hrd hwl hlo
  have KX := kIn_of Y
  refine Ground.open G ?_
  intro T B D TE TW
  try (refine guard_noD D (by decide +kernel) ?_; clear D)
  wrow_args hpre hlay hrd hwl hlo
  refine enter_call ?_
  rename_i ns hs hlay0 hL1 hr1 hl2 w4 w3 l vs w0 hL ra w1 r0 hI hr2 hc hc2
  cases w1 with
  | list hget hall =>
    refine codeAny_mono (Mine.lawTop ?ti KX T.g T.b T.nolimit T.builtins hmg hg hget hL hI hc) ?_
    case ti =>
      constructor
      case free =>
        intro x hx
        simp only [List.mem_cons, List.not_mem_nil, or_false] at hx
        rcases hx with rfl | rfl | rfl | rfl | rfl | rfl | rfl | rfl | rfl | rfl | rfl | rfl | rfl | rfl | rfl | rfl <;> kernel_rfl
      all_goals (constructor <;> first | kernel_rfl | exact ⟨_, _, _, _, _, _, _, _, _, _, rfl⟩)
    rintro r s' ⟨rfl, k1, k2, k3⟩
    refine GoodW.toG ⟨.inl ⟨.bool true, .bool true, [], rfl, ?_, .bool true, ?_, fun _ => ⟨List.nodup_nil, fun _ h => nomatch h⟩⟩, k1, k2, k3⟩
    · intro _; rfl
    · wrow_post
