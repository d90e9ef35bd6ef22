import PyProof.Rows.All
import Wide.All
import OpenK.AllK
import Wide.FinOn
import PyProof.SetKind
import PyProof.Rows.SetFrom
import PySem.Challenge.RW_wk0001_01
set_option Elab.async false
set_option maxRecDepth 100000
set_option linter.unusedVariables false
namespace Mine
open PySem PySem.W PyProof.Rows

/-- the k-th def of the text: parameters, body, scope -/
def part (k : Nat) : Arguments × List Stmt × Scope :=
  match PySem.Challenge.pw_wk0001_01.main.body[k]? with
  | some (.FunctionDef _ args body _ _ _ scope _ _ _) => (args, body, scope)
  | _ => default

/-- a function object of the text at a place -/
def FnAt (h : Heap) (a : Addr) (name : Str) (k : Nat) (c : Addr) : Prop :=
  (∃ o pm, h.get? a = some o ∧ o.data = .func (fnOf name name (part k).1 (part k).2.1 (part k).2.2 .none .none .none pm none (.ref c) .none)) ∧ h.CodeRec (.ref c) name

/-- what the text's names hold -/
structure Names (mg : Str → Option Value) : Prop where
  add : mg "add" = some (.ref 38)
  and_ : mg "and_" = some (.ref 45)
  countOf : mg "countOf" = some (.ref 52)
  getitem : mg "getitem" = some (.ref 59)
  indexOf : mg "indexOf" = some (.ref 66)
  parse : mg "_parse_varint" = some (.ref 73)
  re1 : mg "_twin_re_1" = some (.ref 78)
  re2 : mg "_twin_re_2" = some (.ref 83)
  crlf : ∃ t, mg "CRLF" = some (.str "\r\n" t)
  quote : mg "quotedata" = some (.ref 90)
  read : mg "_law_read" = some (.ref 97)
  spell : mg "_law_spelled" = some (.ref 104)
  none : ∀ x ∈ (["len", "range", "enumerate", "iter", "next", "sorted", "set", "ord", "chr", "int", "StopIteration"] : List Str), mg x = .none

/-- what the call may lean on: the text's names, functions, patterns -/
structure Glb (h : Heap) : Prop where
  stat : ∃ m, h.Ns cStatics m ∧ m "sys.recursionlimit" = none ∧ m sharingNotToldKey = none
  glob : ∃ mg, h.Ns mainGlobals mg ∧ Names mg
  blt : ∃ mb, h.Ns builtinsNs mb ∧ ∀ x : Str, x ≠ "__name__" → mb x = bootBuiltins x
  fAdd : FnAt h 38 "add" 2 37
  fAnd : FnAt h 45 "and_" 3 44
  fCount : FnAt h 52 "countOf" 4 51
  fGet : FnAt h 59 "getitem" 5 58
  fIndex : FnAt h 66 "indexOf" 6 65
  fParse : FnAt h 73 "_parse_varint" 8 72
  fQuote : FnAt h 90 "quotedata" 13 89
  fRead : FnAt h 97 "_law_read" 15 96
  fSpell : FnAt h 104 "_law_spelled" 16 103
  pat1 : ∃ o t n, h.get? 78 = some o ∧ o.cls = .type "re.Pattern" ∧ o.dict = none ∧ o.data = .fields #[.str "(?m)^\\." t, .int 40 n, .int 0 0, .none, .none, .ref 77, .int 0 0]
  pat2 : ∃ o t n, h.get? 83 = some o ∧ o.cls = .type "re.Pattern" ∧ o.dict = none ∧ o.data = .fields #[.str "(?:\\r\\n|\\n|\\r(?!\\n))" t, .int 32 n, .int 0 0, .none, .none, .ref 82, .int 0 0]
  code1 : ∃ o n, h.get? 77 = some o ∧ o.data = .seq (#[14, 4, 0, 1, 1, 6, 1, 16, 46, 1].map fun i => Value.int i 0) n
  code2 : ∃ o n, h.get? 82 = some o ∧ o.data = .seq (#[14, 9, 4, 1, 2, 16, 10, 16, 13, 0, 7, 7, 16, 13, 16, 10, 15, 18, 5, 16, 10, 15, 13, 11, 16, 13, 5, 5, 0, 16, 10, 1, 15, 2, 0, 1].map fun i => Value.int i 0) n

def Sub (h h' : Heap) : Prop := ∀ b o, h.get? b = some o → h'.get? b = some o
theorem Sub.refl {h : Heap} : Sub h h := fun _ _ e => e
theorem Sub.trans {h h' h'' : Heap} (a : Sub h h') (b : Sub h' h'') : Sub h h'' := fun x o e => b x o (a x o e)

theorem FnAt.up {h h' : Heap} {a : Addr} {name : Str} {k : Nat} {c : Addr} (x : FnAt h a name k c) (hk : Sub h h') : FnAt h' a name k c :=
  ⟨let ⟨o, pm, e, d⟩ := x.1; ⟨o, pm, hk _ _ e, d⟩, x.2.keeps hk⟩
theorem Glb.up {h h' : Heap} (G : Glb h) (hk : Sub h h') : Glb h' where
  stat := let ⟨m, a, b⟩ := G.stat; ⟨m, a.keeps hk, b⟩
  glob := let ⟨m, a, b⟩ := G.glob; ⟨m, a.keeps hk, b⟩
  blt := let ⟨m, a, b⟩ := G.blt; ⟨m, a.keeps hk, b⟩
  fAdd := G.fAdd.up hk
  fAnd := G.fAnd.up hk
  fCount := G.fCount.up hk
  fGet := G.fGet.up hk
  fIndex := G.fIndex.up hk
  fParse := G.fParse.up hk
  fQuote := G.fQuote.up hk
  fRead := G.fRead.up hk
  fSpell := G.fSpell.up hk
  pat1 := let ⟨o, t, n, a, r⟩ := G.pat1; ⟨o, t, n, hk _ _ a, r⟩
  pat2 := let ⟨o, t, n, a, r⟩ := G.pat2; ⟨o, t, n, hk _ _ a, r⟩
  code1 := let ⟨o, n, a, r⟩ := G.code1; ⟨o, n, hk _ _ a, r⟩
  code2 := let ⟨o, n, a, r⟩ := G.code2; ⟨o, n, hk _ _ a, r⟩
section
variable {M : Model} {A : Around} {E : Value → Shared → Prop} {s : Shared} {env : Env} {x : Str} {pos : Pos} {v : Value} {Q : Value → Shared → Prop}
theorem Glb.nameU (G : Glb s.heap) (hv : ∀ mg, Names mg → mg x = some v) (h : Q v s) (hk : env.scope.kind = .function := by rfl) (hx : env.kindOf x = some .globalImplicit := by rfl) (hg : env.globals = mainGlobals := by rfl)
    (hd : (x == ("__debug__" : Str)) = false := by decide) : wpAny M A (eval (.Name x pos) env) Q E s := by
  obtain ⟨mg, hn, hm⟩ := G.glob
  exact Calls.Name_function_global hk hx (Calls.loadGlobal_global (hg ▸ hn) (hv mg hm) h) hd
theorem Glb.nameB (G : Glb s.heap) (hv : bootBuiltins x = some v) (h : Q v s) (hi : x ∈ (["len", "range", "enumerate", "iter", "next", "sorted", "set", "ord", "chr", "int", "StopIteration"] : List Str) := by decide +kernel)
    (hk : env.scope.kind = .function := by rfl) (hx : env.kindOf x = some .globalImplicit := by rfl) (hg : env.globals = mainGlobals := by rfl) (hb : env.builtins = builtinsNs := by rfl)
    (hd : (x == ("__debug__" : Str)) = false := by decide) : wpAny M A (eval (.Name x pos) env) Q E s := by
  obtain ⟨mg, hn, hm⟩ := G.glob
  obtain ⟨mb, hbn, hbm⟩ := G.blt
  refine Calls.Name_function_global hk hx (Calls.loadGlobal_builtin (hg ▸ hn) (hm.none x hi) (hb ▸ hbn) ((hbm x ?_).trans hv) h) hd
  rintro rfl
  exact absurd hi (by decide +kernel)
end
section
variable {M : Model} {A : Around} {E : Value → Shared → Prop} {s : Shared} {env : Env} {x : Str} {p pos : Pos} {e e₁ e₂ : Expr} {Q : Value → Shared → Prop}
theorem call1T {T : String} (hn : wpAny M A (eval (.Name x p) env) (fun v s₁ => v = .type T ∧ s₁ = s) E s) (h : wpAny M A (eval e env) (fun v s₁ => wpAny M A (call (.type T) [v]) Q E s₁) E s)
    (hs : starEach [e] env = [(false, eval e env)] := by rfl) : wpAny M A (eval (.Call (.Name x p) [e] [] pos) env) Q E s := by
  refine Call_Name1 (wpAny_mono hn (fun v s₁ q => ?_) fun _ _ z => z) hs
  obtain ⟨rfl, rfl⟩ := q
  exact PySem.callWith_type rfl (Calls.evalArgs_plain (Calls.spliced_cons (wpAny_mono h (fun v s₂ q => Calls.spliced_nil q) fun _ _ z => z)))
theorem call1B {b : String} (hn : wpAny M A (eval (.Name x p) env) (fun v s₁ => v = .builtin b ∧ s₁ = s) E s) (h : wpAny M A (eval e env) (fun v s₁ => wpAny M A (call (.builtin b) [v]) Q E s₁) E s)
    (hs : starEach [e] env = [(false, eval e env)] := by rfl) : wpAny M A (eval (.Call (.Name x p) [e] [] pos) env) Q E s := by
  refine Call_Name1 (wpAny_mono hn (fun v s₁ q => ?_) fun _ _ z => z) hs
  obtain ⟨rfl, rfl⟩ := q
  exact Calls.callWith_builtin rfl (Calls.evalArgs_plain (Calls.spliced_cons (wpAny_mono h (fun v s₂ q => Calls.spliced_nil q) fun _ _ z => z)))
theorem keeps_F {a c : Addr} {name : Str} {k : Nat} (h : Heap) (x : FnAt h a name k c) : ∃ k, (k = Keeper.frame ∨ k = Keeper.machine ∨ k = Keeper.boundFrame) ∧ Looks M h (keeperOf (.ref a)) k := by
  obtain ⟨⟨⟨cl, d, dt, sl⟩, pm, ho, hd⟩, _⟩ := x
  subst hd
  exact ⟨.frame, .inl rfl, (Looks.ld (part := none) ho).andThen .now⟩
theorem call1F {a c : Addr} {name : Str} {k : Nat} (hn : wpAny M A (eval (.Name x p) env) (fun v s₁ => v = .ref a ∧ s₁ = s) E s)
    (h : wpAny M A (eval e env) (fun v s₁ => FnAt s₁.heap a name k c ∧ wpAny M A (call (.ref a) [v]) Q E s₁) E s)
    (hs : starEach [e] env = [(false, eval e env)] := by rfl) : wpAny M A (eval (.Call (.Name x p) [e] [] pos) env) Q E s := by
  refine Call_Name1 (wpAny_mono hn (fun v s₁ q => ?_) fun _ _ z => z) hs
  obtain ⟨rfl, rfl⟩ := q
  exact callWith_of rfl keeps_F (Calls.evalArgs_plain (Calls.spliced_cons (wpAny_mono h (fun v s₂ q => Calls.spliced_nil q) fun _ _ z => z)))
theorem call2F {a c : Addr} {name : Str} {k : Nat} (hn : wpAny M A (eval (.Name x p) env) (fun v s₁ => v = .ref a ∧ s₁ = s) E s)
    (h : wpAny M A (eval e₁ env) (fun v₁ s₁ => wpAny M A (eval e₂ env) (fun v₂ s₂ => FnAt s₂.heap a name k c ∧ wpAny M A (call (.ref a) [v₁, v₂]) Q E s₂) E s₁) E s)
    (hs : starEach [e₁, e₂] env = [(false, eval e₁ env), (false, eval e₂ env)] := by rfl) : wpAny M A (eval (.Call (.Name x p) [e₁, e₂] [] pos) env) Q E s := by
  refine Call_Name2 (wpAny_mono hn (fun v s₁ q => ?_) fun _ _ z => z) hs
  obtain ⟨rfl, rfl⟩ := q
  exact callWith_of rfl keeps_F (Calls.evalArgs_plain (Calls.spliced_cons (wpAny_mono h (fun v s₂ q => Calls.spliced_cons (wpAny_mono q (fun v s₃ q => Calls.spliced_nil q) fun _ _ z => z)) fun _ _ z => z)))
end
theorem Glb.nolim {h : Heap} (G : Glb h) : h.NoLimit := let ⟨m, a, b, _⟩ := G.stat; ⟨m, a, b⟩

end Mine
namespace Mine
open PySem PySem.W PyProof.Rows

structure LF (s₀ : Shared) (X : List Addr) (g : Heap) (env : Env) (m cm : Str → Option Value) (s : Shared) : Prop where
  same : ∃ h tk, s = { s₀ with heap := h, toks := tk }
  tok : s₀.toks ≤ s.toks
  sub : Sub g s.heap
  off : ∀ a ∈ X, g.get? a = none
  ns : s.heap.Ns env.locals m
  loc : env.locals ∈ X
  cell : ∀ n c, env.cells.lookup n = some c → s.heap.IsCell c (cm n)
  cin : ∀ n c, env.cells.lookup n = some c → c ∈ X
  inj : ∀ n c n', env.cells.lookup n = some c → env.cells.lookup n' = some c → n = n'
  fn : env.scope.kind = .function

/-- nothing but the object at a has changed (others may be new) -/
def KB (a : Addr) (s s' : Shared) : Prop := ∀ b o, b ≠ a → s.heap.get? b = some o → s'.heap.get? b = some o
theorem KB.refl {a : Addr} {s : Shared} : KB a s s := fun _ _ _ e => e
theorem KB.trans {a : Addr} {s s' s'' : Shared} (x : KB a s s') (y : KB a s' s'') : KB a s s'' := fun b o n e => y b o n (x b o n e)
theorem KB.ofSub {a : Addr} {s s' : Shared} (x : Sub s.heap s'.heap) : KB a s s' := fun b o _ e => x b o e

/-- a step that changes nothing that stood -/
structure Kp (s s' : Shared) : Prop where
  same : ∃ h tk, s' = { s with heap := h, toks := tk }
  tok : s.toks ≤ s'.toks
  sub : Sub s.heap s'.heap
theorem Kp.refl {s : Shared} : Kp s s := ⟨⟨s.heap, s.toks, rfl⟩, Nat.le_refl _, Sub.refl⟩
theorem Kp.trans {s s' s'' : Shared} (a : Kp s s') (b : Kp s' s'') : Kp s s'' := by
  obtain ⟨⟨h, t, rfl⟩, a2, a3⟩ := a
  obtain ⟨⟨h', t', rfl⟩, b2, b3⟩ := b
  exact ⟨⟨h', t', rfl⟩, Nat.le_trans a2 b2, a3.trans b3⟩
theorem Kp.toks {s : Shared} {k : Nat} (h : s.toks ≤ k) : Kp s { s with toks := k } := ⟨⟨_, _, rfl⟩, h, Sub.refl⟩
theorem Kp.heap {s : Shared} {h : Heap} {k : Nat} (hs : Sub s.heap h) (hk : s.toks ≤ k) : Kp s { s with heap := h, toks := k } := ⟨⟨_, _, rfl⟩, hk, hs⟩
theorem Kp.one {s : Shared} : Kp s { s with toks := s.toks + 1 } := Kp.toks (Nat.le_succ _)

section
variable {s₀ s s' : Shared} {X : List Addr} {g : Heap} {env : Env} {m cm : Str → Option Value}

theorem LF.kp (F : LF s₀ X g env m cm s) (k : Kp s s') : LF s₀ X g env m cm s' where
  same := by
    obtain ⟨h, t, rfl⟩ := F.same
    obtain ⟨⟨h', t', rfl⟩, _, _⟩ := k
    exact ⟨h', t', rfl⟩
  tok := Nat.le_trans F.tok k.tok
  sub := F.sub.trans k.sub
  off := F.off
  ns := F.ns.keeps k.sub
  loc := F.loc
  cell := fun n c e => (F.cell n c e).keeps k.sub
  cin := F.cin
  inj := F.inj
  fn := F.fn

theorem LF.cellne (F : LF s₀ X g env m cm s) {n : Str} {c : Addr} (e : env.cells.lookup n = some c) : c ≠ env.locals := by
  rintro rfl
  obtain ⟨o, es, ep, ho, hd, _⟩ := F.ns
  obtain ⟨o', ho', hd'⟩ := F.cell n _ e
  rw [ho] at ho'
  cases ho'
  rw [hd] at hd'
  cases hd'

theorem LF.lt (F : LF s₀ X g env m cm s) : env.locals < s.heap.objs.size := F.ns.lt

/-- the ground anew: all that stands now, but X -/
theorem LF.ground (F : LF s₀ X g env m cm s) : ∃ g', LF s₀ X g' env m cm s ∧ Sub g g' ∧ ∀ b o, b ∉ X → s.heap.get? b = some o → g'.get? b = some o := by
  refine ⟨hideAll s.heap X, { F with sub := fun b o e => of_hideAll _ e, off := fun a ha => hideAll_none _ ha }, fun b o e => hideAll_get _ (F.sub b o e) fun hb => ?_, fun b o hb e => hideAll_get _ e hb⟩
  rw [F.off b hb] at e; cases e

theorem LF.less (F : LF s₀ X g env m cm s) {X' : List Addr} (h : ∀ a ∈ X', a ∈ X) (hl : env.locals ∈ X') (hc : ∀ n c, env.cells.lookup n = some c → c ∈ X') : LF s₀ X' g env m cm s :=
  { F with off := fun a ha => F.off a (h a ha), loc := hl, cin := hc }
theorem LF.more (F : LF s₀ X g env m cm s) {a : Addr} (h : g.get? a = none) : LF s₀ (a :: X) g env m cm s :=
  { F with off := fun b hb => by
             rcases List.mem_cons.mp hb with rfl | hb
             · exact h
             · exact F.off b hb
           loc := List.mem_cons_of_mem _ F.loc, cin := fun n c e => List.mem_cons_of_mem _ (F.cin n c e) }

theorem LF.fresh (F : LF s₀ X g env m cm s) : g.get? s.heap.objs.size = none := by
  cases e : g.get? s.heap.objs.size with
  | none => rfl
  | some o => exact absurd (Heap.lt_size (F.sub _ _ e)) (Nat.lt_irrefl _)
end

section
variable {M : Model} {A : Around} {E : Value → Shared → Prop} {s₀ s : Shared} {X : List Addr} {g : Heap} {env : Env} {m cm : Str → Option Value}

theorem LF.name {x : Str} {pos : Pos} {v : Value} {Q : Value → Shared → Prop} (F : LF s₀ X g env m cm s) (hl : env.kindOf x = some .local) (hv : m x = some v) (h : Q v s)
    (hd : (x == ("__debug__" : Str)) = false := by decide) : wpAny M A (eval (.Name x pos) env) Q E s := wpAny_Name (wpAny_loadName_local F.fn hl F.ns hv h) hd
theorem LF.load {x : Str} {v : Value} {Q : Value → Shared → Prop} (F : LF s₀ X g env m cm s) (hl : env.kindOf x = some .local) (hv : m x = some v) (h : Q v s) :
    wpAny M A (loadName env x) Q E s := wpAny_loadName_local F.fn hl F.ns hv h
theorem LF.nameC {x : Str} {pos : Pos} {c : Addr} {v : Value} {Q : Value → Shared → Prop} (F : LF s₀ X g env m cm s) (hl : env.kindOf x = some .cell) (hc : env.cells.lookup x = some c) (hv : cm x = some v) (h : Q v s)
    (hd : (x == ("__debug__" : Str)) = false := by decide) : wpAny M A (eval (.Name x pos) env) Q E s := wpAny_Name (wpAny_loadName_cell F.fn hl hc (hv ▸ F.cell x c hc) h) hd

theorem LF.store {x : Str} {v : Value} {Q : Unit → Shared → Prop} (F : LF s₀ X g env m cm s) (hl : env.kindOf x = some .local)
    (h : ∀ s', LF s₀ X g env (fun y => if y = x then some v else m y) cm s' → KB env.locals s s' → s.toks ≤ s'.toks → Q () s') : wpAny M A (storeName env x v) Q E s := by
  refine wpAny_storeName_local hl F.ns (fun h' hn' hs' => h _ ?_ (fun b o hb e => hs'.extBut b o hb e) (Nat.le_succ _)) (by rw [F.fn]; rfl)
  refine { F with same := ?_, tok := Nat.le_succ_of_le F.tok, sub := fun b o e => ?_, ns := hn', cell := fun n c e => (F.cell n c e).sameBut hs' (F.cellne e) }
  · obtain ⟨h₁, tk, rfl⟩ := F.same
    exact ⟨h', _, rfl⟩
  · refine hs'.extBut b o (fun q => ?_) (F.sub b o e)
    rw [q, F.off _ F.loc] at e; cases e
theorem LF.storeC {x : Str} {c : Addr} {v : Value} {Q : Unit → Shared → Prop} (F : LF s₀ X g env m cm s) (hl : env.kindOf x = some .cell) (hc : env.cells.lookup x = some c)
    (h : ∀ s', LF s₀ X g env m (fun y => if y = x then some v else cm y) s' → s.toks ≤ s'.toks → Q () s') : wpAny M A (storeName env x v) Q E s := by
  refine wpAny_storeName_cell F.fn hl hc (F.cell x c hc) fun h' hn' hs' => h _ ?_ (Nat.le_refl _)
  refine { F with same := ?_, tok := F.tok, sub := fun b o e => ?_, ns := F.ns.sameBut hs' (Ne.symm (F.cellne hc)), cell := fun n c' e => ?_ }
  · obtain ⟨h₁, tk, rfl⟩ := F.same
    exact ⟨h', _, rfl⟩
  · refine hs'.extBut b o (fun q => ?_) (F.sub b o e)
    rw [q, F.off _ (F.cin _ _ hc)] at e; cases e
  · by_cases hk : n = x
    · subst hk
      rw [hc] at e; cases e
      simpa using hn'
    · rw [if_neg hk]
      exact (F.cell n c' e).sameBut hs' fun q => hk (F.inj n c' x e (q ▸ hc))

theorem LF.assign {x : Str} {pos : Pos} {v : Value} {Q : Unit → Shared → Prop} (F : LF s₀ X g env m cm s) (hl : env.kindOf x = some .local)
    (h : ∀ s', LF s₀ X g env (fun y => if y = x then some v else m y) cm s' → KB env.locals s s' → s.toks ≤ s'.toks → Q () s') : wpAny M A (assign (.Name x pos) env v) Q E s :=
  wpAny_assign_Name (F.store hl h)
end

section
variable {prog : Program} {w : World} {A : Around} {E : Value → Shared → Prop} {s : Shared}

/-- the environment of a plain def of the text -/
abbrev fenv (k : Nat) (name : Str) (a c L : Addr) : Env := envOf name (part k).2.2 L a (.ref c)

theorem call_fn {a c : Addr} {k : Nat} {name : Str} {vals : List Value} {binds : List (Str × Value)} {Q : Value → Shared → Prop} (G : Glb s.heap) (f : FnAt s.heap a name k c) (hroom : A.depth < recursionLimit)
    (hbind : ∀ pm, bindArgs (fnOf name name (part k).1 (part k).2.1 (part k).2.2 .none .none .none pm none (.ref c) .none) ⟨vals, []⟩ = pure binds)
    (hcell : ∀ x ∈ (part k).2.2.names, x.2 ≠ .cell) (hloc : (binds.map (·.1)).all (fun x => decide ((part k).2.2.names.lookup x = some .local)) = true)
    (hco : (part k).2.2.isCoroutine = false) (hgen : (part k).2.2.isGenerator = false) (hk : (part k).2.2.kind = .function)
    (h : ∀ s₁, LF s [s.heap.objs.size] s.heap (fenv k name a c s.heap.objs.size) (fun x => binds.reverse.lookup x) (fun _ => none) s₁ →
      wpAny (model prog w) (A.deeper (fenv k name a c s.heap.objs.size)) (execs (part k).2.1 (fenv k name a c s.heap.objs.size)) (fun f s' => match f with | .ret v => Q v s' | _ => Q .none s') (fun _ _ => False) s₁) :
    wpAny (model prog w) A (call (.ref a) vals) Q E s := by
  obtain ⟨⟨o, pm, ho, hd⟩, hcd⟩ := f
  refine wpAny_call (codeAny_call_def hroom ho hd G.nolim hcd rfl (.of_eq (hbind pm)) hcell (fun x hx => of_decide_eq_true (List.all_eq_true.mp hloc x.1 (List.mem_map_of_mem hx))) (fun h₁ hns hkp => ?_) hco hgen hk)
  refine wpAny_mono (h _ ⟨⟨_, _, rfl⟩, Nat.le_add_right _ _, hkp, fun b hb => ?_, hns, .head _, (fun n c e => nomatch e), (fun n c e => nomatch e), (fun n c n' e => nomatch e), hk⟩) (fun fl s' q => ?_) fun _ _ x => x.elim
  · rw [List.mem_singleton.mp hb]; exact Heap.get?_none_of_le (Nat.le_refl _)
  · cases fl <;> exact q
end
end Mine
namespace Mine
open PySem PySem.W PyProof.Rows

section
variable {prog : Program} {w : World} {A : Around} {E : Value → Shared → Prop} {s : Shared}

/-- an int that was made here: its mark lies between -/
def Made (s s' : Shared) (v : Value) (n : Int) : Prop := ∃ t, v = .int n t ∧ s.toks ≤ t ∧ t < s'.toks

theorem call_add {a b : Int} {t u : Tok} {Q : Value → Shared → Prop} (G : Glb s.heap) (hroom : A.depth < recursionLimit)
    (h : ∀ v s', Kp s s' → Made s s' v (a + b) → Q v s') : wpAny (model prog w) A (call (.ref 38) [.int a t, .int b u]) Q E s := by
  refine call_fn (binds := [("a", .int a t), ("b", .int b u)]) G G.fAdd hroom (fun _ => rfl) (by decide +kernel) (by rfl) rfl rfl rfl fun s₁ F => ?_
  refine wpAny_execs_cons (wpAny_Return_some (wpAny_BinOp (F.name rfl rfl (F.name rfl rfl (add_int ?_)))))
  obtain ⟨hh, tk, rfl⟩ := F.same
  exact h _ _ (Kp.heap F.sub (Nat.le_succ_of_le F.tok)) ⟨_, rfl, F.tok, Nat.lt_succ_self _⟩

theorem call_and {a b : Int} {t u : Tok} {Q : Value → Shared → Prop} (G : Glb s.heap) (hroom : A.depth < recursionLimit)
    (h : ∀ v s', Kp s s' → Made s s' v (Builtin.bitAnd a b) → Q v s') : wpAny (model prog w) A (call (.ref 45) [.int a t, .int b u]) Q E s := by
  refine call_fn (binds := [("a", .int a t), ("b", .int b u)]) G G.fAnd hroom (fun _ => rfl) (by decide +kernel) (by rfl) rfl rfl rfl fun s₁ F => ?_
  refine wpAny_execs_cons (wpAny_Return_some (wpAny_BinOp (F.name rfl rfl (F.name rfl rfl (and_int ?_)))))
  obtain ⟨hh, tk, rfl⟩ := F.same
  exact h _ _ (Kp.heap F.sub (Nat.le_succ_of_le F.tok)) ⟨_, rfl, F.tok, Nat.lt_succ_self _⟩
end
end Mine
namespace Mine
open PySem PySem.W PyProof.Rows

section
variable {M : Model} {A : Around} {E : Value → Shared → Prop} {s : Shared}

theorem sharing_no {t : Tok} {Q : Bool → Shared → Prop} (G : Glb s.heap) (h : Q false s) : wpAny M A (sharingNotTold t) Q E s := by
  obtain ⟨m, hn, _, hm⟩ := G.stat
  unfold sharingNotTold
  refine wpAny_bind (wpAny_nsGet hn ?_)
  rw [hm]
  exact wpAny_pure h

theorem isSame_int {i j : Int} {t u : Tok} {Q : Bool → Shared → Prop} (G : Glb s.heap) (ht : t ≠ 0) (hu : u ≠ 0) (htu : t = u → i = j)
    (h : ∀ b : Bool, (b = true → i = j) → Q b s) : wpAny M A (isSame (.int i t) (.int j u)) Q E s := by
  show wpAny M A (if (i == j && smallInt i) = true then isSame.cachedInt t u else isSame.created (i == j) t u) Q E s
  have hz : (t == 0 || u == 0) = false := by simp [ht, hu]
  split
  · rename_i he
    unfold isSame.cachedInt
    rw [if_neg (by rw [hz]; simp)]
    refine wpAny_bind (wpAny_rule (wpAny_pure (h _ fun _ => ?_)))
    have := (Bool.and_eq_true_iff.mp he).1
    simpa using this
  · unfold isSame.created
    rw [if_neg (by rw [hz]; simp)]
    dsimp only
    by_cases hq : t = u
    · rw [if_pos (by simpa using hq)]
      exact wpAny_pure (h _ fun _ => htu hq)
    · rw [if_neg (by simpa using hq)]
      by_cases he : i = j
      · rw [if_neg (by simp [he])]
        refine wpAny_bind (sharing_no G ?_)
        simp only [Bool.false_eq_true, if_false]
        refine wpAny_bind (sharing_no G ?_)
        simp only [Bool.false_eq_true, if_false]
        refine wpAny_bind (wpAny_rule ?_)
        refine wpAny_bind (wpAny_askSetting (wpAny_pure (h _ fun _ => he)))
      · rw [if_pos (by simp [he])]
        exact wpAny_pure (h _ fun q => by cases q)
theorem is_int {i j : Int} {t u : Tok} {Q : Value → Shared → Prop} (G : Glb s.heap) (ht : t ≠ 0) (hu : u ≠ 0) (htu : t = u → i = j)
    (h : ∀ b : Bool, (b = true → i = j) → Q (.bool b) s) : wpAny M A (compareOp .Is (.int i t) (.int j u)) Q E s := by
  show wpAny M A (do return .bool (← isSame (.int i t) (.int j u))) Q E s
  exact wpAny_bind (isSame_int G ht hu htu fun b hb => wpAny_pure (h b hb))
end

section
variable {prog : Program} {w : World} {A : Around} {E : Value → Shared → Prop} {s s₀ : Shared} {X : List Addr} {g : Heap} {env : Env} {m cm : Str → Option Value}

abbrev upd (m : Str → Option Value) (x : Str) (v : Value) : Str → Option Value := fun y => if y = x then some v else m y

/-- a for over a list's iterator that stands at place i₀ -/
theorem for_iter {R : Result → Shared → Prop} {x : Str} {px : Pos} {body : List Stmt} {I l : Addr} {vs : List Value} {i₀ : Nat} (J : Nat → Heap → (Str → Option Value) → Prop)
    (hh : A.handled = none) (F : LF s₀ X g env m cm s) (hI : s.heap.IsListIter I l i₀) (hIX : I ∈ X) (hl : g.IsList l vs.toArray) (hi₀ : i₀ ≤ vs.length) (hx : env.kindOf x = some .local)
    (hJ : J i₀ g m)
    (turn : ∀ (E' : Value → Shared → Prop) i v g₁ m₁ s₁, i₀ ≤ i → vs[i]? = some v → Sub g g₁ → J i g₁ m₁ → LF s₀ X g₁ env (upd m₁ x v) cm s₁ → s.toks ≤ s₁.toks →
      wpAny (model prog w) A (execs body env) (fun f s₂ => match f with
        | .next | .cont => ∃ g₂ m₂, Sub g₁ g₂ ∧ J (i + 1) g₂ m₂ ∧ LF s₀ X g₂ env m₂ cm s₂ ∧ KB env.locals s₁ s₂ ∧ s₁.toks ≤ s₂.toks
        | .brk => R (.ok .next) s₂
        | .ret v => R (.ok (.ret v)) s₂) E' s₁)
    (done : ∀ g₁ m₁ s₁, Sub g g₁ → J vs.length g₁ m₁ → LF s₀ X g₁ env m₁ cm s₁ → s.toks ≤ s₁.toks → R (.ok .next) s₁) :
    codeAny (model prog w) A (.forLoop (.Name x px) (.ref I) body [] env) R s := by
  refine codeAny_forLoop_any
    (fun n s₁ => ∃ i g₁ m₁, n = vs.length - i ∧ i₀ ≤ i ∧ i ≤ vs.length ∧ Sub g g₁ ∧ J i g₁ m₁ ∧ LF s₀ X g₁ env m₁ cm s₁ ∧ s₁.heap.IsListIter I l i ∧ s.toks ≤ s₁.toks) ?_ (vs.length - i₀)
    ⟨i₀, g, m, rfl, Nat.le_refl _, hi₀, Sub.refl, hJ, F, hI, Nat.le_refl _⟩
  rintro n s₁ ⟨i, g₁, m₁, rfl, h0, h1, hg, hJ', F₁, hI₁, ht⟩
  have hl₁ : s₁.heap.IsList l vs.toArray := hl.at fun o e => F₁.sub _ _ (hg _ _ e)
  have hIl : I ≠ env.locals := by
    rintro rfl
    obtain ⟨o, es, ep, ho, hd, _⟩ := F₁.ns
    obtain ⟨o', ho', _, hd'⟩ := hI₁
    rw [ho] at ho'; cases ho'; rw [hd] at hd'; cases hd'
  have off : ∀ b o, g₁.get? b = some o → b ≠ I := fun b o e q => by rw [q, F₁.off _ hIX] at e; cases e
  have moved : ∀ h' tk, s₁.toks ≤ tk → (∀ b o, b ≠ I → s₁.heap.get? b = some o → h'.get? b = some o) → LF s₀ X g₁ env m₁ cm { s₁ with heap := h', toks := tk } := fun h' tk htk hk =>
    { F₁ with same := (by obtain ⟨hh, tk', rfl⟩ := F₁.same; exact ⟨h', tk, rfl⟩), tok := Nat.le_trans F₁.tok htk, sub := fun b o e => hk b o (off b o e) (F₁.sub b o e),
              ns := F₁.ns.at' fun o e => hk _ _ (Ne.symm hIl) e,
              cell := fun n c e => by
                obtain ⟨o, ho, hd⟩ := F₁.cell n c e
                refine ⟨o, hk c o ?_ ho, hd⟩
                rintro rfl
                obtain ⟨o', ho', _, hd'⟩ := hI₁
                rw [ho] at ho'; cases ho'; rw [hd] at hd'; cases hd' }
  cases hv : vs[i]? with
  | none =>
    refine wpAny_pyNext_list_end hh hI₁ hl₁ (by simpa using hv) fun h' he => ?_
    refine wpAny_execs_nil ?_
    have hi : i = vs.length := by have := List.getElem?_eq_none_iff.mp hv; omega
    subst hi
    exact done g₁ m₁ _ hg hJ' (moved h' _ (Nat.le_refl _) fun b o hb e => he b o hb e) ht
  | some v =>
    have hlt : i < vs.length := (List.getElem?_eq_some_iff.mp hv).1
    refine wpAny_pyNext_list_item hI₁ hl₁ (by simpa using hv) fun h' hI' hs' => ?_
    show wpAny _ _ (pure ()) _ _ _
    refine wpAny_pure ?_
    refine (moved h' _ (Nat.le_refl _) fun b o hb e => hs'.extBut b o hb e).assign hx fun s₂ F₂ kb₂ ht₂ => ?_
    refine wpAny_mono (turn _ i v g₁ m₁ s₂ h0 hv hg hJ' F₂ (Nat.le_trans ht ht₂)) (fun f s₃ h₃ => ?_) fun _ _ e => e
    have fin : (∃ g₂ m₂, Sub g₁ g₂ ∧ J (i + 1) g₂ m₂ ∧ LF s₀ X g₂ env m₂ cm s₃ ∧ KB env.locals s₂ s₃ ∧ s₂.toks ≤ s₃.toks) → ∃ m, m < vs.length - i ∧ ∃ i' g₁' m₁', m = vs.length - i' ∧ i₀ ≤ i' ∧ i' ≤ vs.length ∧ Sub g g₁' ∧ J i' g₁' m₁' ∧ LF s₀ X g₁' env m₁' cm s₃ ∧ s₃.heap.IsListIter I l i' ∧ s.toks ≤ s₃.toks := by
      rintro ⟨g₂, m₂, hg₂, hJ₂, F₃, kb₃, ht₃⟩
      exact ⟨vs.length - (i + 1), by omega, i + 1, g₂, m₂, rfl, by omega, hlt, hg.trans hg₂, hJ₂, F₃, hI'.at fun o e => kb₃ _ _ hIl (kb₂ _ _ hIl e), Nat.le_trans (Nat.le_trans ht ht₂) ht₃⟩
    cases f with
    | next => exact fin h₃
    | cont => exact fin h₃
    | brk => exact h₃
    | ret v => exact h₃
end
end Mine
namespace Mine
open PySem PySem.W PyProof.Rows

/-- the i-th statement of the k-th def; what stands within a statement -/
def st (k i : Nat) : Stmt := ((part k).2.1)[i]?.getD default
def within : Stmt → List Stmt
  | .For _ _ b _ _ => b
  | .While _ b _ _ => b
  | .If _ b _ _ => b
  | .Try b _ _ _ _ => b
  | _ => []

/-- ints of a list against one other: the marks do not deceive -/
def Safe (vs : List Value) (c : Int) (u : Tok) : Prop := ∀ i t, Value.int i t ∈ vs → t ≠ 0 ∧ (t = u → i = c)

section
variable {prog : Program} {w : World} {A : Around} {E : Value → Shared → Prop} {s s₀ : Shared} {X : List Addr} {g : Heap} {env : Env} {m cm : Str → Option Value}

theorem LF.drop (F : LF s₀ X g env m cm s) (I : Addr) : LF s₀ (I :: X) (hideAll g [I]) env m cm s :=
  { F with sub := fun b o e => F.sub b o (of_hideAll _ e)
           off := fun a ha => by
             by_cases q : a = I
             · rw [q]; exact hideAll_none _ (.head _)
             · cases e : (hideAll g [I]).get? a with
               | none => rfl
               | some o =>
                 have := of_hideAll _ e
                 rw [F.off a ((List.mem_cons.mp ha).resolve_left q)] at this
                 cases this
           loc := List.mem_cons_of_mem _ F.loc
           cin := fun n c e => List.mem_cons_of_mem _ (F.cin n c e) }

theorem ints_at {vs : List Value} {ns : List Int} (h : IntsAre vs ns) {i : Nat} {v : Value} (e : vs[i]? = some v) : ∃ n t, ns[i]? = some n ∧ v = .int n t := by
  induction h generalizing i with
  | nil => cases i <;> cases e
  | cons n t _ ih =>
    cases i with
    | zero => cases e; exact ⟨n, t, rfl, rfl⟩
    | succ i => exact ih e

theorem count_turn {ns : List Int} {i : Nat} {n : Int} (h : ns[i]? = some n) (c : Int) : (ns.take (i + 1)).count c = (ns.take i).count c + (if n = c then 1 else 0) := by
  rw [List.take_add_one, h, List.count_append]
  by_cases q : n = c <;> simp [q]
end

section
variable {prog : Program} {w : World} {A : Around} {E : Value → Shared → Prop} {s s₀ : Shared} {X : List Addr} {g : Heap} {env : Env} {m cm : Str → Option Value}

theorem is_or_eq {x y : Str} {p1 p2 p3 p4 p5 p6 p7 : Pos} {whole : Sem Value} {n c : Int} {t u : Tok} {Q : Bool → Shared → Prop} (G : Glb g) (F : LF s₀ X g env m cm s)
    (kx : env.kindOf x = some .local) (ky : env.kindOf y = some .local) (hx : m x = some (.int n t)) (hy : m y = some (.int c u)) (ht : t ≠ 0) (hu : u ≠ 0) (htu : t = u → n = c)
    (h : Q (decide (n = c)) s) (dx : (x == ("__debug__" : Str)) = false := by decide) (dy : (y == ("__debug__" : Str)) = false := by decide) :
    wpAny (model prog w) A (isTrue (.BoolOp .Or [.Compare (.Name x p1) [.Is] [.Name y p2] p3, .Compare (.Name x p4) [.Eq] [.Name y p5] p6] p7) env whole) Q E s := by
  refine isTrue_or (wpAny_isTrue_Compare1 (F.name kx hx (F.name ky hy (is_int (G.up F.sub) ht hu htu fun b hb => wpAny_truthy_bool ?_) dy) dx))
  cases b with
  | true =>
    simp only [if_true]
    have : n = c := hb rfl
    simpa [this] using h
  | false =>
    simp only [Bool.false_eq_true, if_false]
    refine isTrue_or (wpAny_isTrue_Compare1 (F.name kx hx (F.name ky hy (wpAny_eq_int (wpAny_truthy_bool ?_)) dy) dx))
    have e : (n == c) = decide (n = c) := by by_cases q : n = c <;> simp [q]
    rw [e]
    by_cases q : n = c
    · simp only [q, decide_true, if_true] at h ⊢; exact h
    · simp only [q, decide_false, Bool.false_eq_true, if_false] at h ⊢; exact isTrue_or_nil h
end

section
variable {prog : Program} {w : World} {A : Around} {E : Value → Shared → Prop} {s s₀ : Shared} {X : List Addr} {g : Heap} {m cm : Str → Option Value} {L : Addr}

theorem countOf_loop {I l : Addr} {vs : List Value} {ns : List Int} {c : Int} {u : Tok} {R : Result → Shared → Prop} {px : Pos} (G : Glb g) (hh : A.handled = none)
    (F : LF s₀ X g (fenv 4 "countOf" 52 51 L) m cm s) (hI : s.heap.IsListIter I l 0) (hIX : I ∈ X) (hl : g.IsList l vs.toArray) (hi : IntsAre vs ns) (hu : u ≠ 0) (hT : Safe vs c u)
    (hb : m "b" = some (.int c u)) (hc : ∃ t, m "count" = some (.int 0 t))
    (done : ∀ m₁ s₁ t, LF s₀ X g (fenv 4 "countOf" 52 51 L) m₁ cm s₁ → m₁ "count" = some (.int (ns.count c) t) → R (.ok .next) s₁) :
    codeAny (model prog w) A (.forLoop (.Name "i" px) (.ref I) (within (st 4 1)) [] (fenv 4 "countOf" 52 51 L)) R s := by
  have hlen := hi.length
  refine for_iter (J := fun i g₁ m₁ => g₁ = g ∧ m₁ "b" = some (.int c u) ∧ ∃ t, m₁ "count" = some (.int ((ns.take i).count c : Nat) t)) hh F hI hIX hl (Nat.zero_le _) rfl
    ⟨rfl, hb, by obtain ⟨t, ht⟩ := hc; exact ⟨t, by simpa using ht⟩⟩ ?_ ?_
  · rintro E' i v g₁ m₁ s₁ - hv - ⟨rfl, hb₁, t₁, hc₁⟩ F₁ -
    obtain ⟨n, t, hn, rfl⟩ := ints_at hi hv
    obtain ⟨ht0, htu⟩ := hT n t (List.mem_of_getElem? hv)
    have hcount := count_turn hn c
    refine wpAny_execs_cons (wpAny_If (is_or_eq (x := "i") (y := "b") G F₁ rfl rfl rfl hb₁ ht0 hu htu ?_))
    by_cases q : n = c
    · simp only [q, decide_true, if_true] at hcount ⊢
      refine wpAny_execs_cons (wpAny_AugAssign_Name (F₁.load rfl hc₁ (wpAny_Constant_int (wpAny_iadd_int ?_))))
      refine (F₁.kp (Kp.toks (k := s₁.toks + 1 + 1) (by omega))).store rfl fun s₂ F₂ kb₂ ht₂ => wpAny_execs_nil (wpAny_execs_nil ?_)
      refine ⟨g₁, _, Sub.refl, ?_, F₂, kb₂, Nat.le_trans (by show s₁.toks ≤ s₁.toks + 1 + 1; omega) ht₂⟩
      refine ⟨rfl, hb₁, s₁.toks + 1, ?_⟩
      rw [hcount]
      rfl
    · simp only [q, decide_false, Bool.false_eq_true, if_false, Nat.add_zero] at hcount ⊢
      refine wpAny_execs_nil (wpAny_execs_nil ?_)
      refine ⟨g₁, _, Sub.refl, ?_, F₁, KB.refl, Nat.le_refl _⟩
      exact ⟨rfl, hb₁, t₁, by rw [hcount]; exact hc₁⟩
  · rintro g₁ m₁ s₁ - ⟨rfl, hb₁, t₁, hc₁⟩ F₁ -
    rw [List.take_of_length_le (by omega)] at hc₁
    exact done m₁ s₁ t₁ F₁ hc₁

theorem call_countOf {l : Addr} {vs : List Value} {ns : List Int} {c : Int} {u : Tok} {Q : Value → Shared → Prop} (G : Glb s.heap) (hh : A.handled = none) (hroom : A.depth < recursionLimit)
    (hl : s.heap.IsList l vs.toArray) (hi : IntsAre vs ns) (hu : u ≠ 0) (hT : Safe vs c u)
    (h : ∀ t s', Kp s s' → Q (.int (ns.count c) t) s') : wpAny (model prog w) A (call (.ref 52) [.ref l, .int c u]) Q E s := by
  refine call_fn (binds := [("a", .ref l), ("b", .int c u)]) G G.fCount hroom (fun _ => rfl) (by decide +kernel) (by rfl) rfl rfl rfl fun s₁ F => ?_
  refine wpAny_execs_cons (wpAny_Assign_Name (wpAny_Constant_int ((F.kp Kp.one).store rfl fun s₂ F₂ kb₂ ht₂ => ?_)))
  refine wpAny_execs_cons (wpAny_For (F₂.name rfl rfl (wpAny_pyIter_list (hl.at fun o e => F₂.sub _ _ e) ?_)))
  have F₃ := (F₂.more F₂.fresh).kp (Kp.heap (s := s₂) (h := s₂.heap.push { cls := .type "list_iterator", data := .fields #[.ref l, .int 0 0] }) (k := s₂.toks) (fun b o e => Heap.get?_push_of_some _ e) (Nat.le_refl _))
  refine countOf_loop G hh F₃ ⟨_, Heap.get?_push_size _ rfl, rfl, rfl⟩ (.head _) hl hi hu hT rfl ⟨_, rfl⟩ fun m₁ s₄ t F₄ hm => ?_
  refine wpAny_execs_cons (wpAny_Return_some (F₄.name rfl hm ?_))
  obtain ⟨hh, tk, rfl⟩ := F₄.same
  exact h _ _ (Kp.heap F₄.sub F₄.tok)

/-- the same, handed an iterator of a list: the iterator alone is not as it was -/
theorem call_countOf_iter {I l : Addr} {vs : List Value} {ns : List Int} {c : Int} {u : Tok} {Q : Value → Shared → Prop} (G : Glb (hideAll s.heap [I])) (hh : A.handled = none) (hroom : A.depth < recursionLimit)
    (hI : s.heap.IsListIter I l 0) (hl : s.heap.IsList l vs.toArray) (hi : IntsAre vs ns) (hu : u ≠ 0) (hT : Safe vs c u)
    (h : ∀ t h' tk, Sub (hideAll s.heap [I]) h' → s.toks ≤ tk → Q (.int (ns.count c) t) { s with heap := h', toks := tk }) : wpAny (model prog w) A (call (.ref 52) [.ref I, .int c u]) Q E s := by
  have G' : Glb s.heap := G.up fun b o e => of_hideAll _ e
  have hlI : l ∉ [I] := by
    intro hm
    rw [List.mem_singleton.mp hm] at hl
    obtain ⟨o, ho, hc, _⟩ := hI
    obtain ⟨o', ho', hc', _⟩ := hl
    rw [ho] at ho'; cases ho'; rw [hc] at hc'; exact absurd hc' (by decide)
  have hIlt : I < s.heap.objs.size := by obtain ⟨o, ho, _⟩ := hI; exact Heap.lt_size ho
  refine call_fn (binds := [("a", .ref I), ("b", .int c u)]) G' G'.fCount hroom (fun _ => rfl) (by decide +kernel) (by rfl) rfl rfl rfl fun s₁ F => ?_
  refine wpAny_execs_cons (wpAny_Assign_Name (wpAny_Constant_int ((F.kp Kp.one).store rfl fun s₂ F₂ kb₂ ht₂ => ?_)))
  have hI₂ : s₂.heap.IsListIter I l 0 := (hI.at fun o e => F.sub _ _ e).at fun o e => kb₂ _ _ (Nat.ne_of_lt hIlt) e
  refine wpAny_execs_cons (wpAny_For (F₂.name rfl rfl (wpAny_pyIter_listiter hI₂ ?_)))
  refine countOf_loop G hh (F₂.drop I) hI₂ (.head _) (hl.at fun o e => hideAll_get _ e hlI) hi hu hT rfl ⟨_, rfl⟩ fun m₁ s₄ t F₄ hm => ?_
  refine wpAny_execs_cons (wpAny_Return_some (F₄.name rfl hm ?_))
  obtain ⟨hh, tk, rfl⟩ := F₄.same
  exact h _ _ _ F₄.sub F₄.tok
end
end Mine
namespace Mine
open PySem PySem.W PyProof.Rows

/-- an object that is no namespace and no cell -/
def Flds (h : Heap) (a : Addr) : Prop := ∃ o, h.get? a = some o ∧ ((∃ vs, o.data = .fields vs) ∨ ∃ vs n, o.data = .seq vs n)
theorem flds_iter {h : Heap} {I l : Addr} {i : Nat} (x : h.IsListIter I l i) : Flds h I := let ⟨o, ho, _, hd⟩ := x; ⟨o, ho, .inl ⟨_, hd⟩⟩
theorem flds_enum {h : Heap} {e it : Addr} {i : Int} {old : Value} (x : IsEnum h e it i old) : Flds h e := ⟨_, x, .inl ⟨_, rfl⟩⟩
theorem flds_list {h : Heap} {l : Addr} {vs : Array Value} (x : h.IsList l vs) : Flds h l := let ⟨o, ho, _, n, hd⟩ := x; ⟨o, ho, .inr ⟨_, n, hd⟩⟩

section
variable {s₀ s : Shared} {X : List Addr} {g : Heap} {env : Env} {m cm : Str → Option Value}
theorem LF.notLoc (F : LF s₀ X g env m cm s) {a : Addr} (x : Flds s.heap a) : a ≠ env.locals := by
  rintro rfl
  obtain ⟨o, es, ep, ho, hd, _⟩ := F.ns
  obtain ⟨o', ho', hd'⟩ := x
  rw [ho] at ho'; cases ho'; rw [hd] at hd'
  rcases hd' with ⟨_, q⟩ | ⟨_, _, q⟩ <;> cases q
theorem LF.notCell (F : LF s₀ X g env m cm s) {a : Addr} (x : Flds s.heap a) {n : Str} {c : Addr} (e : env.cells.lookup n = some c) : a ≠ c := by
  rintro rfl
  obtain ⟨o, ho, hd⟩ := F.cell _ _ e
  obtain ⟨o', ho', hd'⟩ := x
  rw [ho] at ho'; cases ho'; rw [hd] at hd'
  rcases hd' with ⟨_, q⟩ | ⟨_, _, q⟩ <;> cases q
theorem LF.keepBut (F : LF s₀ X g env m cm s) (Y : List Addr) (hY : ∀ a ∈ Y, a ∈ X ∧ Flds s.heap a) {h' : Heap} {tk : Nat}
    (hk : ∀ b o, b ∉ Y → s.heap.get? b = some o → h'.get? b = some o) (ht : s.toks ≤ tk) : LF s₀ X g env m cm { s with heap := h', toks := tk } :=
  { F with same := (by obtain ⟨hh, tk', rfl⟩ := F.same; exact ⟨h', tk, rfl⟩)
           tok := Nat.le_trans F.tok ht
           sub := fun b o e => hk b o (fun hb => by rw [F.off _ (hY b hb).1] at e; cases e) (F.sub b o e)
           ns := F.ns.at' fun o e => hk _ _ (fun hb => F.notLoc (hY _ hb).2 rfl) e
           cell := fun n c e => by
             obtain ⟨o, ho, hd⟩ := F.cell n c e
             exact ⟨o, hk c o (fun hb => F.notCell (hY _ hb).2 e rfl) ho, hd⟩ }
end

section
variable {prog : Program} {w : World} {A : Around} {E : Value → Shared → Prop} {s s₀ : Shared} {X : List Addr} {g : Heap} {env : Env} {m cm : Str → Option Value}

theorem enum_item {e it l : Addr} {i : Nat} {old v : Value} {vs : List Value} {xi xv : Str} {pi pv pt : Pos} {x1 : Nat} {P : Shared → Prop} {Q : Shared → Prop} (hh : A.handled = none)
    (F : LF s₀ X g env m cm s) (he : IsEnum s.heap e it i old) (hit : s.heap.IsListIter it l i) (hl : g.IsList l vs.toArray) (heX : e ∈ X) (hiX : it ∈ X) (hne : e ≠ it) (hv : vs[i]? = some v)
    (hxi : env.kindOf xi = some .local) (hxv : env.kindOf xv = some .local)
    (h : ∀ s' t, LF s₀ X g env (upd (upd m xi (.int i t)) xv v) cm s' → IsEnum s'.heap e it ((i + 1 : Nat) : Int) v → s'.heap.IsListIter it l (i + 1) → s.toks ≤ t → t < s'.toks →
      (∀ b o, b ≠ env.locals → b ≠ e → b ≠ it → s.heap.get? b = some o → s'.heap.get? b = some o) → Q s') :
    wpAny (model prog w) A (pyNext (.ref e)) (fun r s₁ => match r with
      | none => P s₁
      | some v => wpAny (model prog w) A (letOwnedTupleGo (.Tuple [.Name xi pi, .Name xv pv] x1 pt) (.ref e) v) (fun _ s₂ => wpAny (model prog w) A (assign (.Tuple [.Name xi pi, .Name xv pv] x1 pt) env v) (fun _ s₃ => Q s₃) E s₂) E s₁) E s := by
  have hl₁ : s.heap.IsList l vs.toArray := hl.at fun o x => F.sub _ _ x
  have heH : e < s.heap.objs.size := Heap.lt_size he
  have hiH : it < s.heap.objs.size := by obtain ⟨o, ho, _⟩ := id hit; exact Heap.lt_size ho
  refine wpAny_pyNext_enum_item he hit hl₁ (by simpa using hv) hne fun h₁ heo hit₁ ht₁ hz₁ hk₁ => ?_
  have Y : ∀ a ∈ [e, it], a ∈ X ∧ Flds s.heap a := by
    intro a ha
    rcases List.mem_cons.mp ha with rfl | ha
    · exact ⟨heX, flds_enum he⟩
    · rw [List.mem_singleton.mp ha]; exact ⟨hiX, flds_iter hit⟩
  have F₁ := F.keepBut [e, it] Y (h' := h₁) (tk := s.toks + 1) (fun b o hb x => hk₁ b o (fun q => hb (q ▸ .head _)) (fun q => hb (q ▸ .tail _ (.head _))) x) (Nat.le_succ _)
  refine wpAny_letOwnedTupleGo_enum heo fun h₂ he₂ hs₂ => ?_
  have F₂ := F₁.keepBut [e] (by intro a ha; rw [List.mem_singleton.mp ha]; exact ⟨heX, ⟨_, heo, .inl ⟨_, rfl⟩⟩⟩) (h' := h₂) (tk := s.toks + 1) (fun b o hb x => hs₂.extBut b o (fun q => hb (q ▸ .head _)) x) (Nat.le_refl _)
  replace hs₂ : Heap.SameBut e h₁ h₂ := hs₂
  have ht₂ : h₂.IsTuple s.heap.objs.size #[.int i s.toks, v] := ⟨_, (hs₂.2 _ (Nat.ne_of_gt heH)).trans ht₁, rfl, _, rfl⟩
  have hz₂ : h₂.objs.size = s.heap.objs.size + 1 := hs₂.1.trans hz₁
  refine wpAny_assign_Tuple hh ht₂ rfl rfl fun h₃ hx₃ => ?_
  replace hx₃ : Heap.ExtBut h₂.objs.size h₂ h₃ := hx₃
  have up₃ : Sub h₂ h₃ := fun b o x => hx₃ b o (Nat.ne_of_lt (Heap.lt_size x)) x
  have F₃ := F₂.kp (Kp.heap (s := { s with heap := h₂, toks := s.toks + 1 }) (h := h₃) (k := s.toks + 1) up₃ (Nat.le_refl _))
  show wpAny _ A (do holding [v] (assign (.Name xi pi) env (.int i s.toks)); do holding [] (assign (.Name xv pv) env v); pure ()) _ _ _
  refine wpAny_bind (wpAny_holding (F₃.assign hxi fun s₄ F₄ kb₄ ht₄ => wpAny_bind (wpAny_holding (F₄.assign hxv fun s₅ F₅ kb₅ ht₅ => wpAny_pure ?_))))
  have toL : ∀ b o, b ≠ env.locals → h₂.get? b = some o → s₅.heap.get? b = some o := fun b o hb x => kb₅ b o hb (kb₄ b o hb (up₃ b o x))
  refine h s₅ s.toks F₅ ?_ ?_ (Nat.le_refl _) ?_ fun b o hb hbe hbi x => toL b o hb (hs₂.extBut b o hbe (hk₁ b o hbe hbi x))
  · have q : ((i + 1 : Nat) : Int) = (i : Int) + 1 := by push_cast; rfl
    rw [q]
    exact toL _ _ (F.notLoc (flds_enum he)) he₂
  · exact (hit₁.extBut hs₂.extBut (Ne.symm hne)).at fun o x => toL _ _ (F.notLoc (flds_iter hit)) x
  · exact Nat.lt_of_lt_of_le (Nat.lt_succ_self s.toks) (Nat.le_trans ht₄ ht₅)

theorem enum_end {e it l : Addr} {i : Nat} {old : Value} {vs : List Value} {K : Value → Shared → Prop} {P : Shared → Prop} (hh : A.handled = none)
    (F : LF s₀ X g env m cm s) (he : IsEnum s.heap e it i old) (hit : s.heap.IsListIter it l i) (hl : g.IsList l vs.toArray) (hiX : it ∈ X) (hv : vs[i]? = none)
    (h : ∀ s', LF s₀ X g env m cm s' → s.toks ≤ s'.toks → P s') :
    wpAny (model prog w) A (pyNext (.ref e)) (fun r s₁ => match r with | none => P s₁ | some v => K v s₁) E s := by
  have hl₁ : s.heap.IsList l vs.toArray := hl.at fun o x => F.sub _ _ x
  refine wpAny_pyNext_enum_end hh he hit hl₁ (by simpa using hv) fun h' hx => h _ ?_ (Nat.le_refl _)
  exact F.keepBut [it] (by intro a ha; rw [List.mem_singleton.mp ha]; exact ⟨hiX, flds_iter hit⟩) (fun b o hb x => hx b o (fun q => hb (q ▸ .head _)) x) (Nat.le_refl _)
end
end Mine
namespace Mine
open PySem PySem.W PyProof.Rows

section
variable {prog : Program} {w : World} {A : Around} {E : Value → Shared → Prop} {s s₀ : Shared} {X : List Addr} {g : Heap} {env : Env} {m cm : Str → Option Value}

theorem is_or_eq_lists {x y : Str} {p1 p2 p3 p4 p5 p6 p7 : Pos} {whole : Sem Value} {a b : Addr} {vs us : List Value} {ns ms : List Int} {Q : Bool → Shared → Prop} (F : LF s₀ X g env m cm s)
    (kx : env.kindOf x = some .local) (ky : env.kindOf y = some .local) (hx : m x = some (.ref a)) (hy : m y = some (.ref b)) (ha : g.IsList a vs.toArray) (hb : g.IsList b us.toArray) (hi : IntsAre vs ns) (hj : IntsAre us ms)
    (hu : A.units + 64 < cLine)
    (h : Q (decide (ns = ms)) s) (dx : (x == ("__debug__" : Str)) = false := by decide) (dy : (y == ("__debug__" : Str)) = false := by decide) :
    wpAny (model prog w) A (isTrue (.BoolOp .Or [.Compare (.Name x p1) [.Is] [.Name y p2] p3, .Compare (.Name x p4) [.Eq] [.Name y p5] p6] p7) env whole) Q E s := by
  have ha' : s.heap.IsList a vs.toArray := ha.at fun o e => F.sub _ _ e
  have hb' : s.heap.IsList b us.toArray := hb.at fun o e => F.sub _ _ e
  by_cases q : a = b
  · subst q
    have e : ns = ms := by
      obtain ⟨o, ho, _, n, hd⟩ := ha
      obtain ⟨o', ho', _, n', hd'⟩ := hb
      rw [ho] at ho'; cases ho'; rw [hd] at hd'
      injection hd' with e1 _
      have e2 : vs = us := by simpa using e1
      subst e2
      rw [← hi.nums, ← hj.nums]
    refine isTrue_or (wpAny_isTrue_Compare1 (F.name kx hx (F.name ky hy (wpAny_is_ref_self (wpAny_truthy_bool ?_)) dy) dx))
    simp only [if_true]
    simpa [e] using h
  · obtain ⟨oa, hoa, hca, _⟩ := id ha'
    obtain ⟨ob, hob, _⟩ := id hb'
    refine isTrue_or (wpAny_isTrue_Compare1 (F.name kx hx (F.name ky hy (wpAny_is_ref_other q hoa hob (by rw [hca]; decide) (wpAny_truthy_bool ?_)) dy) dx))
    simp only [Bool.false_eq_true, if_false]
    refine isTrue_or (wpAny_isTrue_Compare1 (F.name kx hx (F.name ky hy (eq_intsK ha' hi hb' hj hu (wpAny_truthy_bool ?_)) dy) dx))
    by_cases q : ns = ms
    · simp only [q, decide_true, if_true] at h ⊢; exact h
    · simp only [q, decide_false, Bool.false_eq_true, if_false] at h ⊢; exact isTrue_or_nil h

/-- the test of a statement, its other branch -/
def testOf : Stmt → Expr
  | .If t _ _ _ => t
  | .While t _ _ _ => t
  | _ => default
def elseOf : Stmt → List Stmt
  | .For _ _ _ o _ => o
  | _ => []
end

section
variable {prog : Program} {w : World} {A : Around} {E : Value → Shared → Prop} {s s₀ : Shared} {X : List Addr} {g : Heap} {m cm : Str → Option Value} {L : Addr}

theorem indexOf_loop {e it l : Addr} {vs : List Value} {R : Result → Shared → Prop} {pi pv pt : Pos} {x1 : Nat} {bv : Value} (p : Nat → Bool) (k₀ : Nat) (hh : A.handled = none)
    (F : LF s₀ X g (fenv 6 "indexOf" 66 65 L) m cm s) (he : IsEnum s.heap e it 0 .none) (hit : s.heap.IsListIter it l 0) (heX : e ∈ X) (hiX : it ∈ X) (hne : e ≠ it) (hl : g.IsList l vs.toArray)
    (hb : m "b" = some bv) (hk : k₀ < vs.length) (hp : p k₀ = true) (hlt : ∀ k, k < k₀ → p k = false)
    (test : ∀ (E' : Value → Shared → Prop) (Q : Bool → Shared → Prop) k v m₁ s₁, vs[k]? = some v → LF s₀ X g (fenv 6 "indexOf" 66 65 L) m₁ cm s₁ → m₁ "j" = some v → m₁ "b" = some bv → Q (p k) s₁ →
      wpAny (model prog w) A (isTrue (testOf ((within (st 6 0))[0]?.getD default)) (fenv 6 "indexOf" 66 65 L) (eval (testOf ((within (st 6 0))[0]?.getD default)) (fenv 6 "indexOf" 66 65 L))) Q E' s₁)
    (done : ∀ m₁ s₁ t, LF s₀ X g (fenv 6 "indexOf" 66 65 L) m₁ cm s₁ → R (.ok (.ret (.int k₀ t))) s₁) :
    codeAny (model prog w) A (.forLoop (.Tuple [.Name "i" pi, .Name "j" pv] x1 pt) (.ref e) (within (st 6 0)) (elseOf (st 6 0)) (fenv 6 "indexOf" 66 65 L)) R s := by
  refine codeAny_forLoop_any
    (fun n s₁ => ∃ i m₁ old, n = vs.length - i ∧ i ≤ k₀ ∧ LF s₀ X g (fenv 6 "indexOf" 66 65 L) m₁ cm s₁ ∧ m₁ "b" = some bv ∧ IsEnum s₁.heap e it (i : Nat) old ∧ s₁.heap.IsListIter it l i) ?_ vs.length
    ⟨0, m, .none, rfl, Nat.zero_le _, F, hb, he, hit⟩
  rintro n s₁ ⟨i, m₁, old, rfl, hik, F₁, hb₁, he₁, hit₁⟩
  have hi : i < vs.length := Nat.lt_of_le_of_lt hik hk
  obtain ⟨v, hv⟩ : ∃ v, vs[i]? = some v := ⟨vs[i], by simp [hi]⟩
  refine enum_item hh F₁ he₁ hit₁ hl heX hiX hne hv rfl rfl fun s₂ t F₂ he₂ hit₂ _ _ kb₂ => ?_
  refine wpAny_execs_cons (wpAny_If (test _ _ i v _ s₂ hv F₂ rfl hb₁ ?_))
  by_cases q : i = k₀
  · subst q
    rw [hp]
    simp only [if_true]
    exact wpAny_execs_cons (wpAny_Return_some (F₂.name rfl rfl (done _ _ t F₂)))
  · rw [hlt i (by omega)]
    simp only [Bool.false_eq_true, if_false]
    refine wpAny_execs_nil (wpAny_execs_nil ?_)
    exact ⟨vs.length - (i + 1), by omega, i + 1, _, v, rfl, by omega, F₂, hb₁, he₂, hit₂⟩

theorem call_indexOf {l : Addr} {vs : List Value} {bv : Value} {Q : Value → Shared → Prop} (p : Nat → Bool) (k₀ : Nat) (G : Glb s.heap) (hh : A.handled = none) (hroom : A.depth < recursionLimit)
    (hl : s.heap.IsList l vs.toArray) (hk : k₀ < vs.length) (hp : p k₀ = true) (hlt : ∀ k, k < k₀ → p k = false)
    (test : ∀ (A' : Around) (L : Addr) (X : List Addr) (E' : Value → Shared → Prop) (Q : Bool → Shared → Prop) k v m₁ s₁, A'.units = A.units + 3 → vs[k]? = some v → LF s X s.heap (fenv 6 "indexOf" 66 65 L) m₁ (fun _ => none) s₁ → m₁ "j" = some v → m₁ "b" = some bv → Q (p k) s₁ →
      wpAny (model prog w) A' (isTrue (testOf ((within (st 6 0))[0]?.getD default)) (fenv 6 "indexOf" 66 65 L) (eval (testOf ((within (st 6 0))[0]?.getD default)) (fenv 6 "indexOf" 66 65 L))) Q E' s₁)
    (h : ∀ t s', Kp s s' → Q (.int k₀ t) s') : wpAny (model prog w) A (call (.ref 66) [.ref l, bv]) Q E s := by
  refine call_fn (binds := [("a", .ref l), ("b", bv)]) G G.fIndex hroom (fun _ => rfl) (by decide +kernel) (by rfl) rfl rfl rfl fun s₁ F => ?_
  have G₁ := G.up F.sub
  have hl₁ : s₁.heap.IsList l vs.toArray := hl.at fun o e => F.sub _ _ e
  refine wpAny_execs_cons ?_
  show wpAny _ _ (exec (.For _ _ (within (st 6 0)) (elseOf (st 6 0)) _) _) _ _ _
  refine wpAny_For (call1T (G₁.nameB (by boot_by_name) ⟨rfl, rfl⟩) (F.name rfl rfl (call_enumerate_list hl₁ fun h₂ he₂ hit₂ hz₂ hk₂ => ?_)))
  have F₂ := F.kp (Kp.heap (s := s₁) (h := h₂) (k := s₁.toks) hk₂ (Nat.le_refl _))
  have o1 : s.heap.get? s₁.heap.objs.size = none := F.fresh
  have o2 : s.heap.get? (s₁.heap.objs.size + 1) = none := by
    cases e : s.heap.get? (s₁.heap.objs.size + 1) with
    | none => rfl
    | some o => exact absurd (Heap.lt_size (F.sub _ _ e)) (Nat.not_lt.mpr (Nat.le_succ _))
  refine wpAny_pyIter_enum he₂ (indexOf_loop p k₀ hh ((F₂.more o1).more o2) he₂ hit₂ (.head _) (.tail _ (.head _)) (Nat.succ_ne_self _) hl rfl hk hp hlt (fun E' Q k v m₁ s₃ hv F₃ hj hb hq => ?_) fun m₁ s₃ t F₃ => ?_)
  · exact test _ _ _ E' Q k v m₁ s₃ (by rfl) hv F₃ hj hb hq
  · obtain ⟨hh, tk, rfl⟩ := F₃.same
    exact h _ _ (Kp.heap F₃.sub F₃.tok)

theorem call_indexOf_ints {l : Addr} {vs : List Value} {ns : List Int} {c : Int} {u : Tok} {Q : Value → Shared → Prop} (G : Glb s.heap) (hh : A.handled = none) (hroom : A.depth < recursionLimit)
    (hl : s.heap.IsList l vs.toArray) (hi : IntsAre vs ns) (hu : u ≠ 0) (hT : Safe vs c u) (hc : c ∈ ns)
    (h : ∀ t s', Kp s s' → Q (.int (ns.idxOf c : Nat) t) s') : wpAny (model prog w) A (call (.ref 66) [.ref l, .int c u]) Q E s := by
  have hlen := hi.length
  have hlt := List.idxOf_lt_length_iff.mpr hc
  refine call_indexOf (fun k => decide (ns[k]? = some c)) (ns.idxOf c) G hh hroom hl (by omega) (by simp [List.getElem?_eq_getElem hlt]) (fun k hk => ?_) (fun A' L X E' Q k v m₁ s₁ _ hv F hj hb hq => ?_) h
  · simp only [decide_eq_false_iff_not]
    intro q
    obtain ⟨hk', e⟩ := List.getElem?_eq_some_iff.mp q
    have q' := List.not_of_lt_findIdx hk
    rw [e] at q'
    simp at q'
  · obtain ⟨n, t, hn, rfl⟩ := ints_at hi hv
    obtain ⟨ht0, htu⟩ := hT n t (List.mem_of_getElem? hv)
    rw [hn] at hq
    exact is_or_eq (x := "j") (y := "b") G F rfl rfl hj hb ht0 hu htu (by simpa using hq)

theorem call_indexOf_lists {l b : Addr} {rs : List Addr} {rows : List (List Int)} {us : List Value} {ms : List Int} {Q : Value → Shared → Prop} (G : Glb s.heap) (hh : A.handled = none) (hroom : A.depth < recursionLimit)
    (hun : A.units + 100 < cLine) (hl : s.heap.IsList l (rs.map Value.ref).toArray) (hr : ∀ (k : Nat) (a : Addr), rs[k]? = some a → ∃ vs ns, rows[k]? = some ns ∧ s.heap.IsList a vs.toArray ∧ IntsAre vs ns) (hlen : rs.length = rows.length)
    (hb : s.heap.IsList b us.toArray) (hj : IntsAre us ms) (hc : ms ∈ rows)
    (h : ∀ t s', Kp s s' → Q (.int (rows.idxOf ms : Nat) t) s') : wpAny (model prog w) A (call (.ref 66) [.ref l, .ref b]) Q E s := by
  have hlt := List.idxOf_lt_length_iff.mpr hc
  refine call_indexOf (vs := rs.map Value.ref) (fun k => decide (rows[k]? = some ms)) (rows.idxOf ms) G hh hroom hl (by simpa [hlen] using hlt) (by simp [List.getElem?_eq_getElem hlt]) (fun k hk => ?_) (fun A' L X E' Q k v m₁ s₁ hA hv F hjv hbv hq => ?_) h
  · simp only [decide_eq_false_iff_not]
    intro q
    obtain ⟨hk', e⟩ := List.getElem?_eq_some_iff.mp q
    have q' := List.not_of_lt_findIdx hk
    rw [e] at q'
    simp at q'
  · rw [List.getElem?_map] at hv
    obtain ⟨a, ha, rfl⟩ := Option.map_eq_some_iff.mp hv
    obtain ⟨vs, ns, hns, hal, hi⟩ := hr k a ha
    rw [hns] at hq
    exact is_or_eq_lists (x := "j") (y := "b") F rfl rfl hjv hbv hal hb hi hj (by omega) (by simpa using hq)
end
end Mine
namespace Mine
open PySem PySem.W PyProof.Rows

/-- a list object of the plain make -/
abbrev LL (h : Heap) (a : Addr) (vs : List Value) : Prop := ∃ n, h.get? a = some { cls := .type "list", data := .seq vs.toArray n }
theorem LL.is {h : Heap} {a : Addr} {vs : List Value} (x : LL h a vs) : h.IsList a vs.toArray := let ⟨n, e⟩ := x; ⟨_, e, rfl, n, rfl⟩
theorem LL.up {h h' : Heap} {a : Addr} {vs : List Value} (x : LL h a vs) (k : Sub h h') : LL h' a vs := let ⟨n, e⟩ := x; ⟨n, k _ _ e⟩
theorem flds_LL {h : Heap} {a : Addr} {vs : List Value} (x : LL h a vs) : Flds h a := flds_list x.is

section
variable {prog : Program} {w : World} {A : Around} {E : Value → Shared → Prop} {s : Shared} {env : Env} {Q : Value → Shared → Prop} {a b : Int} {t u : Tok}
theorem constI {k : Nat} {pos : Pos} (h : ∀ s' (t : Nat), Kp s s' → s.toks ≤ t → t < s'.toks → Q (.int a t) s') : wpAny (model prog w) A (eval (.Constant (.int a) k pos) env) Q E s :=
  wpAny_Constant_int (h _ _ Kp.one (Nat.le_refl _) (Nat.lt_succ_self _))
theorem constS {x : Str} {k : Nat} {pos : Pos} (h : ∀ s' t, Kp s s' → Q (.str x t) s') : wpAny (model prog w) A (eval (.Constant (.str x) k pos) env) Q E s :=
  Calls.Constant_str (h _ _ Kp.one)
theorem addI (h : ∀ s' (r : Nat), Kp s s' → s.toks ≤ r → r < s'.toks → Q (.int (a + b) r) s') : wpAny (model prog w) A (binaryOp .Add (.int a t) (.int b u)) Q E s :=
  add_int (h _ _ Kp.one (Nat.le_refl _) (Nat.lt_succ_self _))
theorem modI (hb : b ≠ 0) (h : ∀ s' (r : Nat), Kp s s' → s.toks ≤ r → r < s'.toks → Q (.int (a.fmod b) r) s') : wpAny (model prog w) A (binaryOp .Mod (.int a t) (.int b u)) Q E s :=
  mod_int hb (h _ _ Kp.one (Nat.le_refl _) (Nat.lt_succ_self _))
theorem fdivI (hb : b ≠ 0) (hp : Builtin.divisionGoesByPylong a b = false) (h : ∀ s' (r : Nat), Kp s s' → s.toks ≤ r → r < s'.toks → Q (.int (a.fdiv b) r) s') : wpAny (model prog w) A (binaryOp .FloorDiv (.int a t) (.int b u)) Q E s :=
  floordiv_int hb (h _ _ Kp.one (Nat.le_refl _) (Nat.lt_succ_self _)) (.inl hp)
theorem andI (h : ∀ s' (r : Nat), Kp s s' → s.toks ≤ r → r < s'.toks → Q (.int (Builtin.bitAnd a b) r) s') : wpAny (model prog w) A (binaryOp .BitAnd (.int a t) (.int b u)) Q E s :=
  and_int (h _ _ Kp.one (Nat.le_refl _) (Nat.lt_succ_self _))
theorem listI {vs : List Value} (hz : vs.length ≤ sizeLine) (h : ∀ s' D, Kp s s' → LL s'.heap D vs → s.heap.get? D = none → Q (.ref D) s') : wpAny (model prog w) A (newList vs) Q E s :=
  wpAny_newList (h _ _ (Kp.heap (s := s) (fun b o e => Heap.get?_push_of_some _ e) (Nat.le_refl _)) ⟨0, Heap.get?_push_size _ rfl⟩ (Heap.get?_none_of_le (Nat.le_refl _))) hz
theorem catI {l r : Addr} {vs us : List Value} (hl : LL s.heap l vs) (hr : LL s.heap r us) (hz : vs.length + us.length ≤ sizeLine) (h : ∀ s' D, Kp s s' → LL s'.heap D (vs ++ us) → s.heap.get? D = none → Q (.ref D) s') :
    wpAny (model prog w) A (binaryOp .Add (.ref l) (.ref r)) Q E s := by
  obtain ⟨n, hl⟩ := hl
  obtain ⟨n2, hr⟩ := hr
  refine P.add_list hl hr (h _ _ (Kp.heap (s := s) (fun b o e => Heap.get?_push_of_some _ e) (Nat.le_refl _)) ⟨0, ?_⟩ (Heap.get?_none_of_le (Nat.le_refl _))) (by simpa using hz)
  simpa using Heap.get?_push_size s.heap (o := { cls := .type "list", data := .seq (vs.toArray ++ us.toArray) }) rfl
end
end Mine
namespace Mine
open PySem PySem.W PyProof.Rows

/-- the digits that stand ahead of the last one -/
def hi (m : Nat) : List Nat := if h : 63 < m then hi (m / 64) ++ [64 + m % 64] else [64 + m % 64]
termination_by m
decreasing_by omega
/-- a number spelled in digits of 64, all but the last with 64 more -/
def spelled (m : Nat) : List Nat := (if 63 < m then hi (m / 64) else []) ++ [m % 64]
theorem hi_eq (m : Nat) : hi m = (if 63 < m then hi (m / 64) else []) ++ [64 + m % 64] := by
  rw [hi]
  split <;> simp [*]

/-- a list of made ints -/
def MadeInts (lo up : Nat) (vs : List Value) (ns : List Int) : Prop := IntsAre vs ns ∧ ∀ (i : Int) (t : Nat), Value.int i t ∈ vs → lo ≤ t ∧ t < up
theorem MadeInts.mono {lo up up' : Nat} {vs : List Value} {ns : List Int} (h : MadeInts lo up vs ns) (hu : up ≤ up') : MadeInts lo up' vs ns :=
  ⟨h.1, fun i t hm => ⟨(h.2 i t hm).1, Nat.lt_of_lt_of_le (h.2 i t hm).2 hu⟩⟩
theorem MadeInts.nil {lo up : Nat} : MadeInts lo up [] [] := ⟨.nil, fun i t hm => nomatch hm⟩
theorem MadeInts.cons {lo up : Nat} {vs : List Value} {ns : List Int} {n : Int} {t : Nat} (h : MadeInts lo up vs ns) (h1 : lo ≤ t) (h2 : t < up) : MadeInts lo up (.int n t :: vs) (n :: ns) :=
  ⟨.cons n t h.1, fun i u hm => by
    rcases List.mem_cons.mp hm with q | hm
    · cases q; exact ⟨h1, h2⟩
    · exact h.2 i u hm⟩

theorem fmod_nat (m k : Nat) (hk : 0 < k) : ((m : Nat) : Int).fmod k = ((m % k : Nat) : Int) := by rw [Int.fmod_eq_emod_of_nonneg _ (by omega)]; rfl
theorem fdiv_nat (m k : Nat) (hk : 0 < k) : ((m : Nat) : Int).fdiv k = ((m / k : Nat) : Int) := by rw [Int.fdiv_eq_ediv_of_nonneg _ (by omega)]; rfl

section
variable {prog : Program} {w : World} {A : Around} {E : Value → Shared → Prop} {s s₀ : Shared} {X : List Addr} {g : Heap} {m cm : Str → Option Value} {L : Addr}

theorem call_getitem {l : Addr} {vs : List Value} {k : Int} {u : Tok} {v : Value} {Q : Value → Shared → Prop} (G : Glb s.heap) (hroom : A.depth < recursionLimit)
    (hl : s.heap.IsList l vs.toArray) (h0 : 0 ≤ k) (hhi : k < 2 ^ 63) (hv : vs[k.toNat]? = some v)
    (h : ∀ s', Kp s s' → Q v s') : wpAny (model prog w) A (call (.ref 59) [.ref l, .int k u]) Q E s := by
  refine call_fn (binds := [("a", .ref l), ("b", .int k u)]) G G.fGet hroom (fun _ => rfl) (by decide +kernel) (by rfl) rfl rfl rfl fun s₁ F => ?_
  have hl₁ : s₁.heap.IsList l vs.toArray := hl.at fun o e => F.sub _ _ e
  refine wpAny_execs_cons (wpAny_Return_some (Subscript_ (F.name rfl rfl (F.name rfl rfl (tail_any hl₁.typeIs slot_list_getitem.lookup (wpAny_getItem_list hl₁ h0 hhi (by simpa using hv) ?_) (by with_unfolding_all rfl))))))
  obtain ⟨hh, tk, rfl⟩ := F.same
  exact h _ (Kp.heap F.sub F.tok)

abbrev envS (L : Addr) : Env := fenv 16 "_law_spelled" 104 103 L

theorem call_spelled {n : Nat} {t : Tok} {Q : Value → Shared → Prop} (G : Glb s.heap) (hroom : A.depth < recursionLimit) (hz : (spelled n).length ≤ 1000)
    (h : ∀ D vs s', Kp s s' → LL s'.heap D vs → s.heap.get? D = none → MadeInts s.toks s'.toks vs ((spelled n).map Int.ofNat) → Q (.ref D) s') :
    wpAny (model prog w) A (call (.ref 104) [.int n t]) Q E s := by
  refine call_fn (binds := [("number", .int n t)]) G G.fSpell hroom (fun _ => rfl) (by decide +kernel) (by rfl) rfl rfl rfl fun s₁ F => ?_
  refine wpAny_execs_cons (wpAny_Assign_Name (List_ (Calls.spliced_cons (wpAny_BinOp (F.name rfl rfl (constI fun s₂ t₂ k₂ _ _ => modI (by decide) fun s₃ r k₃ h1 h2 => Calls.spliced_nil (listI (by show 1 ≤ 2 ^ 24; decide) fun s₄ D k₄ hD hDn => ?_)))))))
  have F₄ := F.kp ((k₂.trans k₃).trans k₄)
  have hn : s.heap.get? D = none := by
    cases e : s.heap.get? D with
    | none => rfl
    | some o => have := (k₂.trans k₃).sub _ _ (F.sub _ _ e); rw [hDn] at this; cases this
  refine F₄.store rfl fun s₅ F₅ kb₅ ht₅ => ?_
  refine wpAny_execs_cons (wpAny_While ?_)
  refine codeAny_whileLoop (fun k s' => ∃ (tm : Tok) (acc : List Nat) (D : Addr) (vs : List Value) (m₁ : Str → Option Value), m₁ "number" = some (.int k tm) ∧ m₁ "octets" = some (.ref D) ∧
      LL s'.heap D vs ∧ s.heap.get? D = none ∧ MadeInts s.toks s'.toks vs (acc.map Int.ofNat) ∧ spelled n = (if 63 < k then hi (k / 64) else []) ++ acc ∧
      LF s [s.heap.objs.size] s.heap (envS s.heap.objs.size) m₁ (fun _ => none) s') ?_ n
    ⟨t, [n % 64], D, [.int ((n : Int).fmod 64) r], _, rfl, rfl, let ⟨c, e⟩ := hD; ⟨c, kb₅ _ _ (F₄.notLoc (flds_LL hD)) e⟩, hn, ?_, rfl, F₅⟩
  · rintro mm s' ⟨tm, acc, D, vs, m₁, hm, ho, hD, hn, hV, he, F'⟩
    refine wpAny_isTrue_Compare1 (F'.name rfl hm (constI fun s₂ t₂ k₂ _ _ => gt_int (wpAny_truthy_bool ?_)))
    replace F' := F'.kp k₂
    replace hD := hD.up k₂.sub
    replace hV := hV.mono k₂.tok
    clear k₂
    by_cases q : 63 < mm
    · rw [decide_eq_true (show (63 : Int) < mm by omega)]
      simp only [if_true]
      rw [if_pos q] at he
      refine wpAny_execs_cons (wpAny_Assign_Name (wpAny_BinOp (F'.name rfl hm (constI fun s₃ t₃ k₃ _ _ => fdivI (by decide) (PyProof.noPylong_of_log2 (by decide +kernel)) fun s₄ t₄ k₄ _ _ => ?_))))
      refine (F'.kp (k₃.trans k₄)).store rfl fun s₅ F₅ kb₅ ht₅ => ?_
      have hD₅ : LL s₅.heap D vs := let ⟨c, e⟩ := hD.up (k₃.trans k₄).sub; ⟨c, kb₅ _ _ (F'.notLoc (flds_LL hD)) e⟩
      replace hV := hV.mono (Nat.le_trans (k₃.trans k₄).tok ht₅)
      refine wpAny_execs_cons (wpAny_Assign_Name (wpAny_BinOp (List_ (Calls.spliced_cons (wpAny_BinOp (constI fun s₆ t₆ k₆ _ _ => wpAny_BinOp ((F₅.kp k₆).name rfl rfl (constI fun s₇ t₇ k₇ _ _ => modI (by decide) fun s₈ t₈ k₈ _ _ => addI fun s₉ r k₉ r1 r2 => ?_))))))))
      have kk := ((k₆.trans k₇).trans k₈).trans k₉
      refine Calls.spliced_nil (listI (by show 1 ≤ 2 ^ 24; decide) fun s₁₀ D₂ k₁₀ hD₂ hn₂ => (F₅.kp (kk.trans k₁₀)).name rfl ho ?_)
      have hlen : vs.length = acc.length := by simpa using hV.1.length
      have hle : acc.length ≤ 1000 := by rw [he] at hz; rw [List.length_append] at hz; omega
      refine catI hD₂ (hD₅.up (kk.trans k₁₀).sub) (by rw [sizeLine_eq, hlen]; show 1 + acc.length ≤ _; omega) fun s₁₁ D₃ k₁₁ hD₃ hn₃ => ?_
      have F₁₁ := F₅.kp ((kk.trans k₁₀).trans k₁₁)
      refine F₁₁.store rfl fun s₁₂ F₁₂ kb₁₂ ht₁₂ => wpAny_execs_nil ⟨mm / 64, by omega, t₄, (64 + (mm / 64) % 64) :: acc, D₃, _, _, ?_, rfl, let ⟨c, e⟩ := hD₃; ⟨c, kb₁₂ _ _ (F₁₁.notLoc (flds_LL hD₃)) e⟩, ?_, ?_, ?_, F₁₂⟩
      · show some (Value.int (((mm : Nat) : Int).fdiv 64) t₄) = _
        rw [show (64 : Int) = ((64 : Nat) : Int) from rfl, fdiv_nat _ _ (by decide)]
      · cases e : s.heap.get? D₃ with
        | none => rfl
        | some o => have := (F₅.kp (kk.trans k₁₀)).sub _ _ e; rw [hn₃] at this; cases this
      · have e1 : (64 + ((mm : Nat) : Int).fdiv 64 |>.fmod 64) = 0 ∨ True := .inr trivial
        have e2 : (64 : Int) + (((mm : Nat) : Int).fdiv 64).fmod 64 = Int.ofNat (64 + (mm / 64) % 64) := by
          rw [show (64 : Int) = ((64 : Nat) : Int) from rfl, fdiv_nat _ _ (by decide), fmod_nat _ _ (by decide)]; rfl
        rw [List.map_cons, ← e2]
        have t1 := F₅.tok
        have t2 := ((k₆.trans k₇).trans k₈).tok
        have t3 := (k₁₀.trans k₁₁).tok
        have t4 := kk.tok
        exact (hV.mono (by omega)).cons (by omega) (by omega)
      · rw [he, hi_eq (mm / 64)]
        simp
    · rw [decide_eq_false (show ¬ (63 : Int) < mm by omega)]
      simp only [Bool.false_eq_true, if_false]
      rw [if_neg q, List.nil_append] at he
      refine wpAny_execs_nil (wpAny_execs_cons (wpAny_Return_some (F'.name rfl ho ?_)))
      refine h D vs _ ⟨?_, F'.tok, F'.sub⟩ hD hn (he ▸ hV)
      exact F'.same
  · rw [show (64 : Int) = ((64 : Nat) : Int) from rfl, fmod_nat _ _ (by decide)]
    have t1 := F.tok
    have t2 := k₂.tok
    have t3 := k₄.tok
    exact MadeInts.cons MadeInts.nil (by omega) (by omega)
end
end Mine
namespace Mine
open PySem PySem.W PyProof.Rows

theorem entry_next1 : entryFor table "next" = some Builtin.«next» := kdk_entry_next

section
variable {prog : Program} {w : World} {A : Around} {E : Value → Shared → Prop} {s s₀ : Shared} {X : List Addr} {g : Heap} {env : Env} {m cm : Str → Option Value} {L : Addr}

/-- next at a list's iterator: an item -/
theorem next_item {it l : Addr} {i : Nat} {vs : List Value} {v : Value} {Q : Value → Shared → Prop} (hit : s.heap.IsListIter it l i) (hl : s.heap.IsList l vs.toArray) (hv : vs[i]? = some v)
    (h : ∀ h', h'.IsListIter it l (i + 1) → Heap.SameBut it s.heap h' → Q v { s with heap := h' }) : wpAny (model prog w) A (call (.builtin "next") [.ref it]) Q E s := by
  obtain ⟨oi, hoi, hci, hdi⟩ := id hit
  obtain ⟨ol, hol, _, nl, hdl⟩ := hl
  refine Calls.call_function_entry (by decide +kernel) (by decide +kernel) kdk_entry_next (kdk_args_next _) ?_
  unfold Builtin.«next»
  refine wpAny_bind (m := someArgs "next" 1 2 _) (wpAny_of_eq (a := [Value.ref it]) (by first | rfl | kernel_rfl!) ?_)
  dsimp only
  refine wpAny_bind (wpAny_specialOf (name := Str.ofString "__next__") hit.typeIs slot_listiter_next.lookup ?_)
  refine wpAny_ite_split (fun q => absurd q (by decide)) (fun _ => ?_)
  refine wpAny_bind (wpAny_callSpecial?_slot (name := Str.ofString "__next__") hit.typeIs slot_listiter_next (wpAny_call_entry slot_listiter_next hit.typeIs entry_listiter_next ?_ (args_listiter_next _)))
  show wpAny _ _ (field (.ref it) 0 >>= _) _ _ s
  refine wpAny_bind (wpAny_field hoi hdi (x := .ref l) rfl ?_)
  refine wpAny_ite_split (fun q => absurd q (by simp)) (fun _ => ?_)
  show wpAny _ _ (field (.ref it) 1 >>= _) _ _ s
  refine wpAny_bind (wpAny_field hoi hdi (x := .int i 0) rfl ?_)
  show wpAny _ _ (seqItems? (.ref l) >>= _) _ _ s
  refine wpAny_bind (wpAny_seqItems hol hdl ?_)
  have hv' : vs.toArray[i]? = some v := by simpa using hv
  simp only [Int.toNat_natCast, hv']
  refine wpAny_bind (wpAny_setField hoi hdi (by simp) (wpAny_pure ⟨v, rfl, wpAny_pure ⟨v, rfl, h _ ⟨_, Heap.get?_update_self _ hoi (Obj.isFreed_of_fields (Obj.data_mapFields hdi _)), (Obj.cls_mapFields ..).trans hci, ?_⟩ (Heap.SameBut.update ..)⟩⟩))
  rw [Obj.data_mapFields hdi]; simp [rawInt]

/-- next at its end: StopIteration, made upon a heap that differs at the iterator alone -/
theorem next_end {it l : Addr} {i : Nat} {vs : List Value} {Q : Value → Shared → Prop} (hh : A.handled = none) (hit : s.heap.IsListIter it l i) (hl : s.heap.IsList l vs.toArray) (hv : vs[i]? = none)
    (h : ∀ h₁ h' e, Heap.SameBut it s.heap h₁ → (∃ o vs, h₁.get? it = some o ∧ o.data = .fields vs) → Heap.MadeExcOf h₁ h' e (.type "StopIteration") [] → E (.ref e) { s with heap := h' }) : wpAny (model prog w) A (call (.builtin "next") [.ref it]) Q E s := by
  obtain ⟨oi, hoi, hci, hdi⟩ := id hit
  obtain ⟨ol, hol, _, nl, hdl⟩ := hl
  refine Calls.call_function_entry (by decide +kernel) (by decide +kernel) kdk_entry_next (kdk_args_next _) ?_
  unfold Builtin.«next»
  refine wpAny_bind (m := someArgs "next" 1 2 _) (wpAny_of_eq (a := [Value.ref it]) (by first | rfl | kernel_rfl!) ?_)
  dsimp only
  refine wpAny_bind (wpAny_specialOf (name := Str.ofString "__next__") hit.typeIs slot_listiter_next.lookup ?_)
  refine wpAny_ite_split (fun q => absurd q (by decide)) (fun _ => ?_)
  refine wpAny_bind (wpAny_callSpecial?_slot (name := Str.ofString "__next__") hit.typeIs slot_listiter_next (wpAny_call_entry slot_listiter_next hit.typeIs entry_listiter_next ?_ (args_listiter_next _)))
  show wpAny _ _ (field (.ref it) 0 >>= _) _ _ s
  refine wpAny_bind (wpAny_field hoi hdi (x := .ref l) rfl ?_)
  refine wpAny_ite_split (fun q => absurd q (by simp)) (fun _ => ?_)
  show wpAny _ _ (field (.ref it) 1 >>= _) _ _ s
  refine wpAny_bind (wpAny_field hoi hdi (x := .int i 0) rfl ?_)
  show wpAny _ _ (seqItems? (.ref l) >>= _) _ _ s
  refine wpAny_bind (wpAny_seqItems hol hdl ?_)
  have hv' : vs.toArray[i]? = none := by simpa using hv
  simp only [Int.toNat_natCast, hv']
  refine wpAny_bind (wpAny_rule (wpAny_bind (wpAny_setField hoi hdi (by simp) ?_)))
  show wpAny _ _ (newExc (.type "StopIteration") [] >>= _) _ _ _
  refine wpAny_bind ?_
  simp only [newExc, newTuple]
  refine wpAny_bind (wpAny_newObj_type ?_ (by size_fits))
  refine wpAny_bind (m := firstArgMember _ _) (wpAny_of_eq (a := Value.none) (by first | rfl | (simp only [firstArgMember]; rfl)) ?_)
  refine wpAny_newObj_type ?_ (by size_fits)
  refine wpAny_raiseNew_none hh (h (s.heap.update it (Obj.mapFields (·.setIfInBounds 0 .none))) _ _ (Heap.SameBut.update ..) ⟨_, _, Heap.get?_update_self _ hoi (Obj.isFreed_of_fields (Obj.data_mapFields hdi _)), Obj.data_mapFields hdi _⟩ ?_)
  refine ⟨fun b o hb => Heap.get?_push_of_some _ (Heap.get?_push_of_some _ hb), Heap.get?_none_of_le (by simp), (s.heap.update it (Obj.mapFields (·.setIfInBounds 0 .none))).objs.size, ?_, Heap.get?_none_of_le (Nat.le_refl _), ?_⟩
  · exact Heap.get?_push_size _ rfl
  · exact Heap.get?_push_of_some _ (Heap.get?_push_size _ rfl)
end
end Mine
namespace Mine
open PySem PySem.W PyProof.Rows

/-- a number read off: its worth, how many signs it took -/
def takeNum : Nat → List Nat → Option (Nat × Nat)
  | _, [] => none
  | v, b :: r => if b / 64 % 2 = 1 then (takeNum (v * 64 + b % 64) r).map fun p => (p.1, p.2 + 1) else some (v * 64 + b % 64, 1)

theorem or_low (v x : Nat) (hx : x < 64) : Builtin.bitOr ((v * 64 : Nat) : Int) (x : Nat) = ((v * 64 + x : Nat) : Int) := by
  have h0 : (v * 64) &&& x = 0 := by
    apply Nat.eq_of_testBit_eq
    intro i
    rw [Nat.testBit_and, Nat.zero_testBit]
    by_cases q : i < 6
    · have : (v * 64).testBit i = false := by
        rw [show v * 64 = 2 ^ 6 * v by omega, Nat.testBit_two_pow_mul]
        simp [Nat.not_le.mpr q]
      rw [this, Bool.false_and]
    · have : x.testBit i = false := Nat.testBit_lt_two_pow (Nat.lt_of_lt_of_le hx (show 2 ^ 6 ≤ 2 ^ i from Nat.pow_le_pow_right (by decide) (by omega)))
      rw [this, Bool.and_false]
  rw [PyProof.Rows.bitOr_and, PyProof.Rows.bitAnd_pp (by omega) (by omega)]
  simp only [Int.toNat_natCast, h0]
  omega
theorem and63 (b : Nat) : Builtin.bitAnd (b : Int) 63 = ((b % 64 : Nat) : Int) := by
  have := kbt_mask (b : Int) 6
  rw [show (2 : Int) ^ 6 - 1 = 63 by decide, show (2 : Int) ^ 6 = 64 by decide] at this
  rw [this]; rfl
theorem and64 (b : Nat) : Builtin.bitAnd (b : Int) 64 = ((b / 64 % 2 * 64 : Nat) : Int) := by
  have := kbt_bit (b : Int) 6
  rw [show (2 : Int) ^ 6 = 64 by decide] at this
  rw [this]; rfl
theorem bits_le {v k : Nat} (h : v < 64 ^ k) : (Builtin.Int.intBits (v : Int) : Int) ≤ 6 * k := by
  unfold Builtin.Int.intBits
  split
  · omega
  · rename_i q
    have hv : v ≠ 0 := by intro z; subst z; exact q rfl
    have : v.log2 < 6 * k := (Nat.log2_lt hv).mpr (by rw [Nat.pow_mul]; exact h)
    simp only [Int.natAbs_natCast]
    omega

section
variable {prog : Program} {w : World} {A : Around} {E : Value → Shared → Prop} {s s₀ : Shared} {X : List Addr} {g : Heap} {env : Env} {m cm : Str → Option Value} {L : Addr}

theorem LF.next {I l : Addr} {i : Nat} {vs : List Value} {v : Value} {x : Str} {p1 p2 p3 : Pos} {Q : Value → Shared → Prop} (F : LF s₀ X g env m cm s) (G : Glb g) (hI : s.heap.IsListIter I l i) (hIX : I ∈ X) (hl : g.IsList l vs.toArray) (hv : vs[i]? = some v)
    (kx : env.kindOf x = some .local) (hx : m x = some (.ref I)) (kn : env.kindOf "next" = some .globalImplicit) (hg : env.globals = mainGlobals) (hb : env.builtins = builtinsNs)
    (h : ∀ s', LF s₀ X g env m cm s' → s'.heap.IsListIter I l (i + 1) → s.toks ≤ s'.toks → Heap.SameBut I s.heap s'.heap → Q v s') (dx : (x == ("__debug__" : Str)) = false := by decide)
    (hs : starEach [Expr.Name x p2] env = [(false, eval (.Name x p2) env)] := by rfl) :
    wpAny (model prog w) A (eval (.Call (.Name "next" p1) [.Name x p2] [] p3) env) Q E s := by
  refine call1B ((G.up F.sub).nameB (by boot_by_name) ⟨rfl, rfl⟩ (hk := F.fn) (hx := kn) (hg := hg) (hb := hb)) (F.name kx hx (next_item hI (hl.at fun o e => F.sub _ _ e) hv fun h' hI' hs' => h _ ?_ hI' (Nat.le_refl _) hs') dx) hs
  exact F.keepBut [I] (by intro a ha; rw [List.mem_singleton.mp ha]; exact ⟨hIX, flds_iter hI⟩) (fun b o hb e => hs'.extBut b o (fun q => hb (q ▸ .head _)) e) (Nat.le_refl _)

abbrev envP (L : Addr) : Env := fenv 8 "_parse_varint" 73 72 L

theorem call_parse {I l : Addr} {vs : List Value} {bs : List Nat} {i V K : Nat} {Q : Value → Shared → Prop} (G : Glb (hideAll s.heap [I])) (hroom : A.depth < recursionLimit)
    (hI : s.heap.IsListIter I l i) (hl : s.heap.IsList l vs.toArray) (hi : IntsAre vs (bs.map Int.ofNat)) (hz : bs.length ≤ 1000) (hn : takeNum 0 (bs.drop i) = some (V, K))
    (h : ∀ (t : Nat) h' (tk : Nat), Sub (hideAll s.heap [I]) h' → h'.IsListIter I l (i + K) → s.toks ≤ t → t < tk → Q (.int V t) { s with heap := h', toks := tk }) :
    wpAny (model prog w) A (call (.ref 73) [.ref I]) Q E s := by
  have G' : Glb s.heap := G.up fun b o e => of_hideAll _ e
  have hlI : l ∉ [I] := by
    intro hm
    rw [List.mem_singleton.mp hm] at hl
    obtain ⟨o, ho, hc, _⟩ := hI
    obtain ⟨o', ho', hc', _⟩ := hl
    rw [ho] at ho'; cases ho'; rw [hc] at hc'; exact absurd hc' (by decide)
  have hIlt : I < s.heap.objs.size := by obtain ⟨o, ho, _⟩ := id hI; exact Heap.lt_size ho
  have hat : ∀ {j : Nat} {v : Value}, vs[j]? = some v → ∃ (b : Nat) (t : Tok), bs[j]? = some b ∧ v = Value.int b t := by
    intro j v hv
    obtain ⟨n, t, hn, rfl⟩ := ints_at hi hv
    rw [List.getElem?_map] at hn
    obtain ⟨b, hb, rfl⟩ := Option.map_eq_some_iff.mp hn
    exact ⟨b, t, hb, rfl⟩
  have hlen : vs.length = bs.length := by simpa using hi.length
  refine call_fn (binds := [("iterator", .ref I)]) G' G'.fParse hroom (fun _ => rfl) (by decide +kernel) (by rfl) rfl rfl rfl fun s₁ F₀ => ?_
  have F := F₀.drop I
  have hl' : (hideAll s.heap [I]).IsList l vs.toArray := hl.at fun o e => hideAll_get _ e hlI
  have hI₁ : s₁.heap.IsListIter I l i := hI.at fun o e => F₀.sub _ _ e
  obtain ⟨b₀, r₀, hd₀⟩ : ∃ b₀ r₀, bs.drop i = b₀ :: r₀ := by
    cases q : bs.drop i with
    | nil => rw [q] at hn; cases hn
    | cons b r => exact ⟨b, r, rfl⟩
  have hb₀ : bs[i]? = some b₀ := by rw [← List.head?_drop, hd₀]; rfl
  have hr₀ : bs.drop (i + 1) = r₀ := by rw [← List.tail_drop, hd₀]; rfl
  have hilt : i < bs.length := (List.getElem?_eq_some_iff.mp hb₀).1
  obtain ⟨v₀, hv₀⟩ : ∃ v, vs[i]? = some v := ⟨vs[i]'(by omega), by simp [hlen, hilt]⟩
  obtain ⟨b₁, t₀, hb₁, rfl⟩ := hat hv₀
  rw [hb₀] at hb₁; cases hb₁
  refine wpAny_execs_cons (wpAny_Assign_Name (F.next (x := "iterator") G hI₁ (.head _) hl' hv₀ rfl rfl rfl rfl rfl fun s₂ F₂ hI₂ ht₂ hs₂ => ?_))
  refine F₂.store rfl fun s₃ F₃ kb₃ ht₃ => ?_
  have hI₃ : s₃.heap.IsListIter I l (i + 1) := hI₂.at fun o e => kb₃ _ _ (F₂.notLoc (flds_iter hI₂)) e
  refine wpAny_execs_cons (wpAny_Assign_Name (wpAny_BinOp (F₃.name rfl rfl (constI fun s₄ t₄ k₄ _ _ => andI fun s₅ r₅ k₅ h5 h5' => ?_))))
  rw [and63]
  have F₅ := F₃.kp (k₄.trans k₅)
  refine F₅.store rfl fun s₆ F₆ kb₆ ht₆ => ?_
  have hI₆ : s₆.heap.IsListIter I l (i + 1) := (hI₃.at fun o e => (k₄.trans k₅).sub _ _ e).at fun o e => kb₆ _ _ (F₃.notLoc (flds_iter hI₃)) e
  refine wpAny_execs_cons (wpAny_While ?_)
  have hdone : (if b₀ / 64 % 2 = 1 then takeNum (b₀ % 64) r₀ else some (b₀ % 64, 0)) = some (V, K - 1) ∧ 1 ≤ K := by
    rw [hd₀] at hn
    simp only [takeNum, Nat.zero_mul, Nat.zero_add] at hn
    by_cases q : b₀ / 64 % 2 = 1
    · rw [if_pos q] at hn ⊢
      obtain ⟨p, hp, e⟩ := Option.map_eq_some_iff.mp hn
      cases e
      exact ⟨by rw [hp]; simp, by omega⟩
    · rw [if_neg q] at hn ⊢
      cases hn
      exact ⟨rfl, Nat.le_refl _⟩
  have tk₀ := F₃.tok
  refine codeAny_whileLoop (fun k s' => ∃ (p b v : Nat) (tb tv : Nat) (m₁ : Str → Option Value) (K' : Nat), k = bs.length - p ∧ p ≤ bs.length ∧ m₁ "iterator" = some (.ref I) ∧ m₁ "b" = some (.int b tb) ∧ m₁ "val" = some (.int v tv) ∧
      s.toks ≤ tv ∧ tv < s'.toks ∧ s'.heap.IsListIter I l p ∧ v < 64 ^ p ∧ (if b / 64 % 2 = 1 then takeNum v (bs.drop p) else some (v, 0)) = some (V, K') ∧ p + K' = i + K ∧
      LF s (I :: [s.heap.objs.size]) (hideAll s.heap [I]) (envP s.heap.objs.size) m₁ (fun _ => none) s') ?_ (bs.length - (i + 1))
    ⟨i + 1, b₀, b₀ % 64, t₀, r₅, _, K - 1, rfl, by omega, rfl, rfl, rfl, ?_, by omega, hI₆, ?_, ?_, by omega, F₆⟩
  · rintro k s' ⟨p, b, v, tb, tv, m₁, K', rfl, hp, hit, hb, hv, htv, htv', hI', hvp, hres, hpk, F'⟩
    refine isTrue_plain (wpAny_BinOp (F'.name rfl hb (constI fun s₇ t₇ k₇ _ _ => andI fun s₈ r₈ k₈ _ _ => PyProof.Rows.truthy_int ?_)))
    rw [and64]
    replace F' := F'.kp (k₇.trans k₈)
    replace hI' := hI'.at fun o e => (k₇.trans k₈).sub _ _ e
    replace htv' := Nat.lt_of_lt_of_le htv' (k₇.trans k₈).tok
    by_cases q : b / 64 % 2 = 1
    · rw [if_pos q] at hres
      rw [q]
      simp only [Nat.one_mul, show ((((64 : Nat) : Int)) != 0) = true by decide, if_true]
      obtain ⟨b', r', hd'⟩ : ∃ b₀ r₀, bs.drop p = b₀ :: r₀ := by
        cases q : bs.drop p with
        | nil => rw [q] at hres; cases hres
        | cons b r => exact ⟨b, r, rfl⟩
      have hb' : bs[p]? = some b' := by rw [← List.head?_drop, hd']; rfl
      have hr' : bs.drop (p + 1) = r' := by rw [← List.tail_drop, hd']; rfl
      have hplt : p < bs.length := (List.getElem?_eq_some_iff.mp hb').1
      obtain ⟨vp, hvp'⟩ : ∃ v, vs[p]? = some v := ⟨vs[p]'(by omega), by simp [hlen, hplt]⟩
      obtain ⟨bp, tp, hbp, rfl⟩ := hat hvp'
      rw [hb'] at hbp; cases hbp
      refine wpAny_execs_cons (wpAny_AugAssign_Name (F'.load rfl hv (constI fun s₉ t₉ k₉ _ _ => ilshift_int (by decide) ?_ ?_)))
      · have := bits_le hvp
        omega
      rw [show (v : Int) * 2 ^ (6 : Int).toNat = ((v * 64 : Nat) : Int) by rw [show (6 : Int).toNat = 6 from rfl]; push_cast; rfl]
      refine ((F'.kp k₉).kp Kp.one).store rfl fun s₁₀ F₁₀ kb₁₀ ht₁₀ => ?_
      have hI₁₀ : s₁₀.heap.IsListIter I l p := (hI'.at fun o e => k₉.sub _ _ e).at fun o e => kb₁₀ _ _ (F'.notLoc (flds_iter hI')) e
      refine wpAny_execs_cons (wpAny_Assign_Name (F₁₀.next (x := "iterator") G hI₁₀ (.head _) hl' hvp' rfl hit rfl rfl rfl fun s₁₁ F₁₁ hI₁₁ ht₁₁ hs₁₁ => ?_))
      refine F₁₁.store rfl fun s₁₂ F₁₂ kb₁₂ ht₁₂ => ?_
      have hI₁₂ : s₁₂.heap.IsListIter I l (p + 1) := hI₁₁.at fun o e => kb₁₂ _ _ (F₁₁.notLoc (flds_iter hI₁₁)) e
      refine wpAny_execs_cons (wpAny_AugAssign_Name (F₁₂.load rfl rfl (wpAny_BinOp (F₁₂.name rfl rfl (constI fun s₁₃ t₁₃ k₁₃ _ _ => andI fun s₁₄ r₁₄ k₁₄ _ _ => ?_)))))
      rw [and63]
      refine ior_int ?_
      rw [or_low _ _ (Nat.mod_lt _ (by decide))]
      refine ((F₁₂.kp (k₁₃.trans k₁₄)).kp Kp.one).store rfl fun s₁₅ F₁₅ kb₁₅ ht₁₅ => wpAny_execs_nil ?_
      have hI₁₅ : s₁₅.heap.IsListIter I l (p + 1) := (hI₁₂.at fun o e => (k₁₃.trans k₁₄).sub _ _ e).at fun o e => kb₁₅ _ _ (F₁₂.notLoc (flds_iter hI₁₂)) e
      have e1 := (k₁₃.trans k₁₄).tok
      have e2 := k₉.tok
      have e3 : s₁₄.toks + 1 ≤ s₁₅.toks := ht₁₅
      have e4 := F₁₂.tok
      rw [hd'] at hres
      simp only [takeNum] at hres
      obtain ⟨K'', hK'', hKK⟩ : ∃ K'', (if b' / 64 % 2 = 1 then takeNum (v * 64 + b' % 64) (bs.drop (p + 1)) else some (v * 64 + b' % 64, 0)) = some (V, K'') ∧ K' = K'' + 1 := by
        rw [hr']
        by_cases q : b' / 64 % 2 = 1
        · rw [if_pos q] at hres ⊢
          obtain ⟨pp, hpp, e⟩ := Option.map_eq_some_iff.mp hres
          cases e
          exact ⟨pp.2, by rw [hpp], rfl⟩
        · rw [if_neg q] at hres ⊢
          cases hres
          exact ⟨0, rfl, rfl⟩
      refine ⟨bs.length - (p + 1), by omega, p + 1, b', v * 64 + b' % 64, tp, s₁₄.toks, _, K'', rfl, by omega, ?m1, ?m2, ?m3, by omega, by omega, hI₁₅, ?_, hK'', by omega, F₁₅⟩
      case m1 => exact hit
      case m2 => rfl
      case m3 => rfl
      have : b' % 64 < 64 := Nat.mod_lt _ (by decide)
      rw [Nat.pow_succ]
      have : (v + 1) * 64 ≤ 64 ^ p * 64 := Nat.mul_le_mul_right _ hvp
      omega
    · rw [if_neg q] at hres
      have q0 : b / 64 % 2 = 0 := by omega
      rw [q0]
      simp only [Nat.zero_mul, show ((((0 : Nat) : Int)) != 0) = false by decide, Bool.false_eq_true, if_false]
      refine wpAny_execs_nil (wpAny_execs_cons (wpAny_Return_some (F'.name rfl hv ?_)))
      have e1 : v = V ∧ K' = 0 := by
        injection hres with e; exact ⟨congrArg Prod.fst e, (congrArg Prod.snd e).symm⟩
      obtain ⟨rfl, rfl⟩ := e1
      rw [Nat.add_zero] at hpk
      obtain ⟨hh, tk, rfl⟩ := F'.same
      exact h tv _ _ F'.sub (hpk ▸ hI') htv htv'
  · have := (k₄.trans k₅).tok
    have := k₄.tok
    omega
  · exact Nat.lt_of_lt_of_le (Nat.mod_lt _ (by decide)) (by rw [Nat.pow_succ]; exact Nat.le_mul_of_pos_left _ (Nat.pow_pos (by decide)))
  · rw [hr₀]; exact hdone.1
end
end Mine
namespace Mine
open PySem PySem.W PyProof.Rows

section
variable {prog : Program} {w : World} {A : Around} {E : Value → Shared → Prop} {s s₀ : Shared} {X : List Addr} {g : Heap} {env : Env} {m cm : Str → Option Value} {L : Addr}

theorem call_fnE {a c : Addr} {k : Nat} {name : Str} {vals : List Value} {binds : List (Str × Value)} {Q : Value → Shared → Prop} (G : Glb s.heap) (f : FnAt s.heap a name k c) (hroom : A.depth < recursionLimit)
    (hbind : ∀ pm, bindArgs (fnOf name name (part k).1 (part k).2.1 (part k).2.2 .none .none .none pm none (.ref c) .none) ⟨vals, []⟩ = pure binds)
    (hcell : ∀ x ∈ (part k).2.2.names, x.2 ≠ .cell) (hloc : (binds.map (·.1)).all (fun x => decide ((part k).2.2.names.lookup x = some .local)) = true)
    (hco : (part k).2.2.isCoroutine = false) (hgen : (part k).2.2.isGenerator = false) (hk : (part k).2.2.kind = .function)
    (h : ∀ s₁, LF s [s.heap.objs.size] s.heap (fenv k name a c s.heap.objs.size) (fun x => binds.reverse.lookup x) (fun _ => none) s₁ →
      wpAny (model prog w) (A.deeper (fenv k name a c s.heap.objs.size)) (execs (part k).2.1 (fenv k name a c s.heap.objs.size)) (fun f s' => match f with | .ret v => Q v s' | _ => Q .none s')
        (fun e s' => wpAny (model prog w) (A.deeper (fenv k name a c s.heap.objs.size)) (leaving (fenv k name a c s.heap.objs.size) e) (fun _ s'' => E e s'') E s') s₁) :
    wpAny (model prog w) A (call (.ref a) vals) Q E s := by
  obtain ⟨⟨o, pm, ho, hd⟩, hcd⟩ := f
  refine wpAny_call (codeAny_call_def hroom ho hd G.nolim hcd rfl (.of_eq (hbind pm)) hcell (fun x hx => of_decide_eq_true (List.all_eq_true.mp hloc x.1 (List.mem_map_of_mem hx))) (fun h₁ hns hkp => ?_) hco hgen hk)
  refine wpAny_mono (h _ ⟨⟨_, _, rfl⟩, Nat.le_add_right _ _, hkp, fun b hb => ?_, hns, .head _, (fun n c e => nomatch e), (fun n c e => nomatch e), (fun n c n' e => nomatch e), hk⟩) (fun fl s' q => ?_) fun _ _ x => x
  · rw [List.mem_singleton.mp hb]; exact Heap.get?_none_of_le (Nat.le_refl _)
  · cases fl <;> exact q

/-- the reading at the list's end: StopIteration flies out of it -/
theorem parse_raise {I l : Addr} {vs : List Value} {i : Nat} {Q : Value → Shared → Prop} {B : Heap} {outer : List Env} (G : Glb s.heap) (hh : A.handled = none) (hroom : A.depth < recursionLimit) (hfr : A.frames = some outer)
    (hI : s.heap.IsListIter I l i) (hl : s.heap.IsList l vs.toArray) (hv : vs[i]? = none) (hB : Sub B s.heap) (hBI : B.get? I = none) (hfun : s.heap.FunFrames B outer)
    (h : ∀ e t h' (tk : Nat), s.toks ≤ tk → Heap.FlyingW B outer e (.type "StopIteration") (.ref t) h' → (∀ b o, s.heap.get? b = some o → (∀ vs, o.data ≠ .fields vs) → ∃ sl, h'.get? b = some { o with slots := sl }) → E (.ref e) { s with heap := h', toks := tk }) :
    wpAny (model prog w) A (call (.ref 73) [.ref I]) Q E s := by
  refine call_fnE (binds := [("iterator", .ref I)]) G G.fParse hroom (fun _ => rfl) (by decide +kernel) (by rfl) rfl rfl rfl fun s₁ F => ?_
  have hI₁ : s₁.heap.IsListIter I l i := hI.at fun o e => F.sub _ _ e
  have hl₁ : s₁.heap.IsList l vs.toArray := hl.at fun o e => F.sub _ _ e
  refine wpAny_execs_cons (wpAny_Assign_Name (call1B ((G.up F.sub).nameB (by boot_by_name) ⟨rfl, rfl⟩) (F.name rfl rfl (next_end hh hI₁ hl₁ hv fun h₁ h' e hs hIf hx => ?_))))
  have hBh : Sub B h₁ := fun b o x => hs.extBut b o (fun q => by rw [q, hBI] at x; cases x) (F.sub _ _ (hB _ _ x))
  have hL₁ : h₁.Ns (envP s.heap.objs.size).locals (fun x => [(Str.ofString "iterator", Value.ref I)].reverse.lookup x) := F.ns.sameBut hs (Ne.symm (F.notLoc (flds_iter hI₁)))
  have hBL : B.get? (envP s.heap.objs.size).locals = none := by
    cases e : B.get? (envP s.heap.objs.size).locals with
    | none => rfl
    | some o => exact absurd (Heap.lt_size (hB _ _ e)) (Nat.lt_irrefl _)
  have hkeep : ∀ b o, s.heap.get? b = some o → (∀ vs, o.data ≠ .fields vs) → h₁.get? b = some o := fun b o x hn => hs.extBut b o (by
    rintro rfl
    obtain ⟨oi, ho, _, hd⟩ := hI
    rw [ho] at x; cases x
    exact hn _ hd) (F.sub _ _ x)
  refine wpAny_leaves_madeW (base := B) (h := h₁) (outer := outer) (Around.frames_deeper hfr) rfl hBh (Heap.FunFrames.cons (by show (part 8).2.2.kind ≠ _; decide +kernel) rfl hL₁ hBL (hfun.of_keeps fun b o x hn => ⟨o, hkeep b o x hn, rfl⟩)) hx fun h'' t x1 x2 x3 x4 => ?_
  obtain ⟨hh', tk', rfl⟩ := F.same
  refine h e t h'' _ F.tok x1 fun b o x hn => ?_
  exact x4 b o (hx.keeps _ _ (hkeep b o x hn)) hn

/-- what is read off the signs, number by number -/
inductive ReadsTo : List Nat → List Nat → Prop
  | nil : ReadsTo [] []
  | cons {bs : List Nat} {V K : Nat} {r : List Nat} : takeNum 0 bs = some (V, K) → ReadsTo (bs.drop K) r → ReadsTo bs (V :: r)

theorem takeNum_pos : ∀ {bs : List Nat} {v V K : Nat}, takeNum v bs = some (V, K) → 1 ≤ K ∧ K ≤ bs.length
  | [], v, V, K, h => by cases h
  | b :: r, v, V, K, h => by
    simp only [takeNum] at h
    by_cases q : b / 64 % 2 = 1
    · rw [if_pos q] at h
      obtain ⟨p, hp, e⟩ := Option.map_eq_some_iff.mp h
      cases e
      have := takeNum_pos (V := p.1) (K := p.2) hp
      simp only [List.length_cons]
      omega
    · rw [if_neg q] at h
      cases h
      simp

/-- no mark stands for two ints -/
def Coh (vs : List Value) : Prop := ∀ (i j : Int) (t : Nat), Value.int i t ∈ vs → Value.int j t ∈ vs → i = j

theorem cameBack_held {M : Model} {env : Env} {outer : List Env} {e L : Addr} {B : Heap} {cls a0 : Value} (hf : env.frame = some L) (hh : Heap.HeldW B (env :: outer) e cls a0 L s.heap)
    (h : ∀ h', Heap.HeldW B (env :: outer) e cls a0 L h' → s.heap.UpToSlots h' → E (.ref e) { s with heap := h' }) : cameBackBy M A env E (.ref e) s := by
  obtain ⟨k1, k2, k3, oe, vs, T, oT, ts, he, hc, hd, h1, hT, hne, ho, hdT, h3⟩ := hh
  unfold cameBackBy
  refine wpAny_bind (wpAny_field he hd h1 ?_)
  refine wpAny_ite_split (fun q => absurd q (by simp)) (fun _ => ?_)
  unfold setFlight
  refine wpAny_bind (wpAny_field he hd h1 ?_)
  rw [if_pos (show (Value.ref T != Value.none) = true from by simp)]
  have hsz : 3 < ts.size := (Array.getElem?_eq_some_iff.mp h3).1
  refine wpAny_setField ho hdT hsz ?_
  rw [hf]
  have other : ∀ b, b ≠ T → (s.heap.update T (Obj.mapFields (·.setIfInBounds 3 (rawInt L)))).get? b = s.heap.get? b := fun b hb => Heap.get?_update_other _ _ (Ne.symm hb)
  have noRec : ∀ b o, s.heap.get? b = some o → (∀ vs, o.data ≠ .fields vs) → b ≠ T := fun b o hb hnf q => by
    rw [q, ho] at hb; injection hb with hb; subst hb; exact hnf ts hdT
  refine h _ ⟨fun b o x => (other b fun q => by rw [q, hT] at x; cases x).trans (k1 b o x), k2, k3.of_keeps fun b o hb hn => ⟨o, (other b (noRec b o hb hn)).trans hb, rfl⟩, ?_⟩ fun b o hb hn => ⟨o.slots, (other b (noRec b o hb hn)).trans hb⟩
  exact ⟨oe, vs, T, _, _, (other e (Ne.symm hne)).trans he, hc, hd, h1, hT, hne, Heap.get?_update_self _ ho (Obj.isFreed_of_fields (Obj.data_mapFields hdT _)), Obj.data_mapFields hdT _, by simp [hsz]⟩

abbrev envR (L : Addr) : Env := fenv 15 "_law_read" 97 96 L

theorem Coh.snoc {lo up : Nat} {vs : List Value} {ns : List Int} {n : Int} {t : Nat} (h : Coh vs) (hm : MadeInts lo up vs ns) (ht : up ≤ t) : Coh (vs ++ [.int n t]) := by
  intro i j u h1 h2
  rcases List.mem_append.mp h1 with h1 | h1 <;> rcases List.mem_append.mp h2 with h2 | h2
  · exact h i j u h1 h2
  · have := List.mem_singleton.mp h2
    cases this
    have := (hm.2 _ _ h1).2
    omega
  · have := List.mem_singleton.mp h1
    cases this
    have := (hm.2 _ _ h2).2
    omega
  · have e1 := List.mem_singleton.mp h1
    have e2 := List.mem_singleton.mp h2
    cases e1; cases e2; rfl
theorem IntsAre.snoc {vs : List Value} {ns : List Int} (h : IntsAre vs ns) (n : Int) (t : Nat) : IntsAre (vs ++ [.int n t]) (ns ++ [n]) := by
  induction h with
  | nil => exact .cons n t .nil
  | cons a u _ ih => exact .cons a u ih
theorem MadeInts.snoc {lo up up' : Nat} {vs : List Value} {ns : List Int} {n : Int} {t : Nat} (h : MadeInts lo up vs ns) (h1 : lo ≤ t) (h2 : t < up') (hu : up ≤ up') : MadeInts lo up' (vs ++ [.int n t]) (ns ++ [n]) :=
  ⟨IntsAre.snoc h.1 n t, fun i u hm => by
    rcases List.mem_append.mp hm with hm | hm
    · exact (h.mono hu).2 i u hm
    · have := List.mem_singleton.mp hm
      cases this
      exact ⟨h1, h2⟩⟩
theorem Coh.nil : Coh [] := fun i j t hm => nomatch hm
theorem call_iter_list {l : Addr} {vs : Array Value} {Q : Value → Shared → Prop} (hl : s.heap.IsList l vs) (h : ∀ s' I, Kp s s' → s'.heap.IsListIter I l 0 → s.heap.get? I = none → Q (.ref I) s') :
    wpAny (model prog w) A (call (.builtin "iter") [.ref l]) Q E s := by
  refine Calls.call_function_entry (by decide +kernel) (by decide +kernel) kdk_entry_iter (kdk_args_iter _) ?_
  unfold Builtin.«iter»
  refine wpAny_bind (m := someArgs "iter" 1 2 _) (wpAny_of_eq (a := [Value.ref l]) (by first | rfl | kernel_rfl!) ?_)
  show wpAny _ _ (pyIter (.ref l) >>= _) _ _ _
  refine wpAny_bind (wpAny_pyIter_list hl (wpAny_pure ⟨_, rfl, h _ _ (Kp.heap (s := s) (fun b o e => Heap.get?_push_of_some _ e) (Nat.le_refl _)) ⟨_, Heap.get?_push_size _ rfl, rfl, rfl⟩ (Heap.get?_none_of_le (Nat.le_refl _))⟩))

theorem call_read {l : Addr} {vs : List Value} {bs nums : List Nat} {Q : Value → Shared → Prop} {B : Heap} {outer : List Env} (G : Glb B) (hh : A.handled = none) (hroom : A.depth + 1 < recursionLimit) (hfr : A.frames = some outer)
    (hl : B.IsList l vs.toArray) (hi : IntsAre vs (bs.map Int.ofNat)) (hz : bs.length ≤ 1000) (hr : ReadsTo bs nums) (hB : Sub B s.heap) (hfun : s.heap.FunFrames B outer)
    (h : ∀ D us h' (tk : Nat), s.toks ≤ tk → Sub B h' → s.heap.UpToSlots h' → s.heap.get? D = none → h'.IsList D us.toArray → MadeInts s.toks tk us (nums.map Int.ofNat) → Coh us → Q (.ref D) { s with heap := h', toks := tk }) :
    wpAny (model prog w) A (call (.ref 97) [.ref l]) Q E s := by
  have hlS : s.heap.IsList l vs.toArray := hl.at fun o e => hB _ _ e
  refine call_fnE (binds := [("octets", .ref l)]) (G.up hB) (G.up hB).fRead (Nat.lt_of_succ_lt hroom) (fun _ => rfl) (by decide +kernel) (by rfl) rfl rfl rfl fun s₁ F => ?_
  refine wpAny_execs_cons (wpAny_Assign_Name (call1B ((G.up (hB.trans F.sub)).nameB (by boot_by_name) ⟨rfl, rfl⟩) (F.name rfl rfl (call_iter_list (hlS.at fun o e => F.sub _ _ e) fun s₂ I k₂ hI₂ hIn => ?_))))
  have hIs : s.heap.get? I = none := by
    cases e : s.heap.get? I with
    | none => rfl
    | some o => have := F.sub _ _ e; rw [hIn] at this; cases this
  have hIB : B.get? I = none := by
    cases e : B.get? I with
    | none => rfl
    | some o => have := hB _ _ e; rw [hIs] at this; cases this
  have F₂ := (F.more hIs).kp k₂
  refine F₂.store rfl fun s₃ F₃ kb₃ ht₃ => ?_
  have hI₃ : s₃.heap.IsListIter I l 0 := hI₂.at fun o e => kb₃ _ _ (F₂.notLoc (flds_iter hI₂)) e
  refine wpAny_execs_cons (wpAny_Assign_Name (List_ (Calls.spliced_nil (listI (by show 0 ≤ 2 ^ 24; decide) fun s₄ D k₄ hD₄ hDn => ?_))))
  have hDI : D ≠ I := by rintro rfl; obtain ⟨o, ho, _⟩ := hI₃; rw [hDn] at ho; cases ho
  have hDs : s.heap.get? D = none := by
    cases e : s.heap.get? D with
    | none => rfl
    | some o => have := F₃.sub _ _ e; rw [hDn] at this; cases this
  have F₄ := (F₃.more hDs).kp k₄
  refine F₄.store rfl fun s₅ F₅ kb₅ ht₅ => ?_
  have hD₅ : PlainL s₅.heap D #[] := let ⟨c, e⟩ := hD₄; ⟨_, c, kb₅ _ _ (F₄.notLoc (flds_LL hD₄)) e, rfl, rfl, rfl⟩
  have hI₅ : s₅.heap.IsListIter I l 0 := (hI₃.at fun o e => k₄.sub _ _ e).at fun o e => kb₅ _ _ (F₃.notLoc (flds_iter hI₃)) e
  refine wpAny_execs_cons (wpAny_Try_except (wpAny_execs_cons (wpAny_While ?_)))
  refine codeAny_whileLoop (fun k s' => ∃ (p : Nat) (done rest : List Nat) (us : List Value) (m₁ : Str → Option Value), k = bs.length - p ∧ p ≤ bs.length ∧ nums = done ++ rest ∧ ReadsTo (bs.drop p) rest ∧
      m₁ "tape" = some (.ref I) ∧ m₁ "numbers" = some (.ref D) ∧ s'.heap.IsListIter I l p ∧ PlainL s'.heap D us.toArray ∧ MadeInts s.toks s'.toks us (done.map Int.ofNat) ∧ Coh us ∧
      LF s (D :: I :: [s.heap.objs.size]) s.heap (envR s.heap.objs.size) m₁ (fun _ => none) s') ?_ bs.length
    ⟨0, [], nums, [], _, rfl, Nat.zero_le _, rfl, hr, rfl, rfl, hI₅, hD₅, MadeInts.nil, Coh.nil, F₅⟩
  rintro k s' ⟨p, done, rest, us, m₁, rfl, hp, hnum, hrest, htape, hnumb, hI', hD', hV, hC, F'⟩
  refine isTrue_plain (Constant_bool (wpAny_truthy_bool ?_))
  simp only [if_true]
  have hlB : ∀ {h' : Heap}, Sub B h' → h'.IsList l vs.toArray := fun k => hl.at fun o e => k _ _ e
  have hBs' : Sub B s'.heap := hB.trans F'.sub
  have hlen : vs.length = bs.length := by simpa using hi.length
  refine wpAny_execs_cons (wpAny_Expr (wpAny_Call_append rfl rfl rfl rfl (F'.name rfl hnumb ⟨D, us.toArray, rfl, hD', call1F ((G.up hBs').nameU (fun _ N => N.parse) ⟨rfl, rfl⟩) (F'.name rfl htape ⟨(G.up hBs').fParse, ?_⟩)⟩)))
  cases hq : bs.drop p with
  | nil =>
    have hp' : bs.length ≤ p := List.drop_eq_nil_iff.mp hq
    have hrest' : rest = [] := by
      rw [hq] at hrest
      cases hrest with
      | nil => rfl
      | cons h _ => cases h
    subst hrest'
    rw [List.append_nil] at hnum
    subst hnum
    refine parse_raise (B := B) (outer := envR s.heap.objs.size :: outer) (G.up hBs') hh hroom (Around.frames_deeper hfr) hI' (hlB hBs') (List.getElem?_eq_none (by omega)) hBs' hIB
      (Heap.FunFrames.cons (by show (part 15).2.2.kind ≠ _; decide +kernel) rfl F'.ns ?_ (hfun.of_keeps fun b o x hn => ⟨o, F'.sub _ _ x, rfl⟩)) fun e t h₁ tk₁ htk₁ hfly hup => ?_
    · cases e : B.get? (envR s.heap.objs.size).locals with
      | none => exact e
      | some o => exact absurd (Heap.lt_size (hB _ _ e)) (Nat.lt_irrefl _)
    · have S₁ : Heap.UpToSlots s'.heap h₁ := hup
      show wpAny _ _ (noteFrame (.ref e) _) (fun _ s'' => cameBackBy _ _ _ _ (.ref e) s'') _ _
      refine wpAny_looks_onW (Around.frames_deeper hfr) rfl hfly fun h₂ hh₂ S₂ => ?_
      refine cameBack_held rfl hh₂ fun h₃ hh₃ S₃ => ?_
      refine wpAny_noteFrame_againW rfl hh₃.2.2.2 ?_
      refine wpAny_landsW hh₃ fun h₄ hfly₄ S₄ => ?_
      have S := ((S₁.trans S₂).trans S₃).trans S₄
      have hBs₄ : Sub B h₄ := hfly₄.1
      obtain ⟨ob, hob, hoc⟩ := hfly₄.there
      refine wpAny_handleBy_builtin (X := "StopIteration") (T := "StopIteration") (b := true) owsi_raise.isExc (by rw [isSubtype_type]; kernel_rfl) owsi_facts.sub ((G.up hBs₄).nameB (by boot_by_name) ⟨rfl, ⟨ob, hob, hoc⟩, ?_⟩)
      simp only [if_true]
      refine lands_againW hfly₄ fun h₅ hfly₅ S₅ => ?_
      have S' := S.trans S₅
      have hn₅ := Heap.UpToSlots.ns S' F'.ns
      refine wpAny_execs_cons (wpAny_Return_some (wpAny_Name (wpAny_loadName_local (by show (part 15).2.2.kind = _; decide +kernel) rfl hn₅ hnumb ?_)))
      obtain ⟨oD, nD, hoD, hcD, hdD, hsD⟩ := hD'
      obtain ⟨sl, hsl⟩ := S' D oD hoD fun vs q => by rw [hsD] at q; cases q
      have t1 := F'.tok
      obtain ⟨hx, tkx, rfl⟩ := F'.same
      refine h D us h₅ tk₁ (Nat.le_trans t1 htk₁) hfly₅.1 ((Heap.UpToSlots.of_keeps F'.sub).trans S') hDs ⟨_, hsl, hcD, nD, hsD⟩ (hV.mono htk₁) hC
  | cons b₀ r₀ =>
    rw [hq] at hrest
    cases hrest with
    | cons hn hr' =>
      rename_i V K rest'
      rw [← hq] at hn hr'
      rw [List.drop_drop] at hr'
      obtain ⟨hK1, hK2⟩ := takeNum_pos hn
      rw [List.length_drop] at hK2
      have hBI : Sub B (hideAll s'.heap [I]) := fun b o x => hideAll_get _ (hBs' _ _ x) fun hm => by rw [List.mem_singleton.mp hm, hIB] at x; cases x
      have hplt : p < bs.length := by
        have : (bs.drop p).length = (b₀ :: r₀).length := by rw [hq]
        rw [List.length_drop, List.length_cons] at this
        omega
      refine call_parse (G.up hBI) hroom hI' (hlB hBs') hi hz hn fun t h₁ tk₁ hsub hI₁ ht ht' => ?_
      have F₁ := F'.keepBut [I] (by intro a ha; rw [List.mem_singleton.mp ha]; exact ⟨.tail _ (.head _), flds_iter hI'⟩) (h' := h₁) (tk := tk₁) (fun b o hb x => hsub _ _ (hideAll_get _ x hb)) (by omega)
      have hD₁ : PlainL h₁ D us.toArray := let ⟨o, n, x, r⟩ := hD'; ⟨o, n, hsub _ _ (hideAll_get _ x fun hm => hDI (List.mem_singleton.mp hm)), r⟩
      have hle : us.length ≤ 1000 := by
        have e1 : us.length = done.length := by simpa using hV.1.length
        have e2 : done.length ≤ nums.length := by rw [hnum, List.length_append]; omega
        have e3 : ∀ {bs nums : List Nat}, ReadsTo bs nums → nums.length ≤ bs.length := by
          intro bs nums hr
          induction hr with
          | nil => exact Nat.le_refl _
          | cons h1 _ ih => have := takeNum_pos h1; rw [List.length_drop] at ih; simp only [List.length_cons]; omega
        have e4 := e3 hr
        omega
      refine list_append_plainL hD₁ (fun h₂ hD₂ hs₂ => ?_) (by rw [sizeLine_eq, List.size_toArray]; omega)
      have F₂ := F₁.keepBut [D] (by intro a ha; rw [List.mem_singleton.mp ha]; exact ⟨.head _, flds_list hD₁.isList⟩) (h' := h₂) (tk := tk₁) (fun b o hb x => hs₂.extBut b o (fun q => hb (q ▸ .head _)) x) (Nat.le_refl _)
      have hI₂ : h₂.IsListIter I l (p + K) := hI₁.at fun o x => hs₂.extBut _ _ (Ne.symm hDI) x
      refine wpAny_execs_nil ⟨bs.length - (p + K), by omega, p + K, done ++ [V], rest', us ++ [.int V t], m₁, rfl, by omega, by rw [hnum]; simp, hr', htape, hnumb, hI₂, ?_, ?_, Coh.snoc hC hV ht, F₂⟩
      · rw [show (us ++ [Value.int (V : Int) t]).toArray = us.toArray.push (.int V t) by simp]; exact hD₂
      · rw [List.map_append]
        have := F'.tok
        exact hV.snoc (by omega) ht' (by show s'.toks ≤ tk₁; omega)
end
end Mine
namespace Mine

def rot (cs : List Int) (k : Nat) : List Int := cs.drop k ++ cs.take k
def rots (cs : List Int) : List (List Int) := (List.range cs.length).map (rot cs)
def lst (r : List Int) : Int := r.getLastD 0
def hd (r : List Int) : Int := r.headD 0
def rotR (r : List Int) : List Int := lst r :: r.dropLast

theorem lst_append (a : List Int) (x : Int) : lst (a ++ [x]) = x := by simp [lst]
theorem split_last {r : List Int} (h : r ≠ []) : r = r.dropLast ++ [lst r] := by
  have e : lst r = r.getLast h := by
    unfold lst
    cases r with
    | nil => exact absurd rfl h
    | cons a t => simp [List.getLastD]
  rw [e, List.dropLast_concat_getLast]
theorem rot_len (cs : List Int) (k : Nat) (hk : k ≤ cs.length) : (rot cs k).length = cs.length := by
  simp [rot]; omega
theorem rotR_rot {cs : List Int} {k : Nat} (hk : k < cs.length) : rotR (rot cs (k + 1)) = rot cs k ∧ lst (rot cs (k + 1)) = cs.getD k 0 := by
  have e : rot cs (k + 1) = (cs.drop (k + 1) ++ cs.take k) ++ [cs[k]] := by
    unfold rot
    rw [List.take_succ_eq_append_getElem hk, List.append_assoc]
  have hl : lst (rot cs (k + 1)) = cs[k] := by rw [e, lst_append]
  refine ⟨?_, by rw [hl]; simp [hk]⟩
  unfold rotR
  rw [hl, e, List.dropLast_concat]
  unfold rot
  rw [List.drop_eq_getElem_cons hk]
  rfl
theorem rot_zero (cs : List Int) : rot cs 0 = cs := by simp [rot]
theorem rot_full (cs : List Int) : rot cs cs.length = cs := by simp [rot]
theorem hd_rot {cs : List Int} {k : Nat} (hk : k < cs.length) : hd (rot cs k) = cs[k] := by
  unfold rot hd
  rw [List.drop_eq_getElem_cons hk]
  rfl
theorem rots_hd (cs : List Int) : (rots cs).map hd = cs := by
  unfold rots
  rw [List.map_map]
  apply List.ext_getElem (by simp)
  intro i h1 h2
  simp only [List.getElem_map, List.getElem_range, Function.comp_apply]
  exact hd_rot h2
theorem rots_rotR {cs : List Int} (h : cs ≠ []) : ((rots cs).map rotR).Perm (rots cs) := by
  obtain ⟨m, hm⟩ : ∃ m, cs.length = m + 1 := ⟨cs.length - 1, by have := List.length_pos_iff.mpr h; omega⟩
  unfold rots
  rw [hm]
  have e1 : ((List.range (m + 1)).map (rot cs)).map rotR = rot cs m :: (List.range m).map (rot cs) := by
    rw [List.range_succ_eq_map, List.map_cons, List.map_cons, rot_zero]
    congr 1
    · have := (rotR_rot (cs := cs) (k := m) (by omega)).1
      rw [show m + 1 = cs.length by omega, rot_full] at this
      exact this
    · rw [List.map_map, List.map_map]
      apply List.map_congr_left
      intro k hk
      have hk' := List.mem_range.mp hk
      exact (rotR_rot (cs := cs) (k := k) (by omega)).1
  rw [e1, List.range_succ, List.map_append]
  exact (List.perm_append_singleton (rot cs m) ((List.range m).map (rot cs))).symm

theorem lt_append {a b : List Int} (x y : List Int) : a.length = b.length → a < b → a ++ x < b ++ y := by
  induction a generalizing b with
  | nil =>
    intro h h'
    cases b with
    | nil => exact absurd h' (List.lt_irrefl _)
    | cons _ _ => cases h
  | cons p t ih =>
    intro h h'
    cases b with
    | nil => cases h
    | cons q u =>
      rw [List.cons_lt_cons_iff] at h'
      rw [List.cons_append, List.cons_append, List.cons_lt_cons_iff]
      rcases h' with h' | ⟨e, h'⟩
      · exact .inl h'
      · exact .inr ⟨e, ih (by simpa using h) h'⟩

/-- a list falls in two at a mark that sinks -/
theorem fall {α : Type} (p : α → Bool) : ∀ {l : List α}, l.Pairwise (fun a b => p b = true → p a = true) → l.take (l.countP p) = l.filter p ∧ l.drop (l.countP p) = l.filter (fun a => !p a)
  | [], _ => ⟨rfl, rfl⟩
  | a :: t, h => by
    rw [List.pairwise_cons] at h
    obtain ⟨ih1, ih2⟩ := fall p h.2
    cases e : p a with
    | true =>
      rw [List.countP_cons_of_pos e, List.filter_cons_of_pos e]
      simp only [List.take_succ_cons, List.drop_succ_cons]
      refine ⟨by rw [ih1], ?_⟩
      rw [ih2, List.filter_cons_of_neg (by simp [e])]
    | false =>
      have none : ∀ b ∈ t, p b = false := fun b hb => by
        cases q : p b with
        | false => rfl
        | true => have := h.1 b hb q; rw [e] at this; cases this
      have hc : t.countP p = 0 := List.countP_eq_zero.mpr fun b hb => by rw [none b hb]; simp
      rw [List.countP_cons_of_neg (by simp [e]), hc]
      have hf : t.filter p = [] := List.filter_eq_nil_iff.mpr fun b hb => by rw [none b hb]; simp
      refine ⟨by rw [List.filter_cons_of_neg (by simp [e]), hf]; rfl, ?_⟩
      rw [List.filter_cons_of_pos (by simp [e])]
      have : t.filter (fun a => !p a) = t := List.filter_eq_self.mpr fun b hb => by rw [none b hb]; rfl
      rw [this]; rfl

theorem nth_filter {α : Type} (p : α → Bool) : ∀ {l : List α} {i : Nat} {a : α}, l[i]? = some a → p a = true → (l.filter p)[(l.take i).countP p]? = some a
  | [], i, a, h, _ => by simp at h
  | b :: t, 0, a, h, hp => by
    simp only [List.getElem?_cons_zero, Option.some.injEq] at h
    subst h
    rw [List.filter_cons_of_pos hp]
    rfl
  | b :: t, i + 1, a, h, hp => by
    simp only [List.getElem?_cons_succ] at h
    have ih := nth_filter p h hp
    rw [List.take_succ_cons]
    cases e : p b with
    | true => rw [List.filter_cons_of_pos e, List.countP_cons_of_pos e]; simpa using ih
    | false => rw [List.filter_cons_of_neg (by simp [e]), List.countP_cons_of_neg (by simp [e])]; exact ih

structure Turned (cs : List Int) (rows : List (List Int)) : Prop where
  ne : cs ≠ []
  perm : rows.Perm (rots cs)
  up : rows.Pairwise (· ≤ ·)

section
variable {cs : List Int} {rows : List (List Int)} (T : Turned cs rows)
include T

theorem Turned.len {r : List Int} (h : r ∈ rows) : r.length = cs.length := by
  obtain ⟨k, hk, e⟩ := List.mem_map.mp (T.perm.mem_iff.mp h)
  rw [← e]
  exact rot_len cs k (Nat.le_of_lt (List.mem_range.mp hk))
theorem Turned.rne {r : List Int} (h : r ∈ rows) : r ≠ [] := by
  have := T.len h
  intro q
  rw [q] at this
  exact T.ne (List.length_eq_zero_iff.mp this.symm)
theorem Turned.size : rows.length = cs.length := by rw [T.perm.length_eq]; simp [rots]

theorem Turned.block (c : Int) : (rows.filter (fun r => lst r == c)).map rotR = rows.filter (fun r => hd r == c) := by
  refine List.Perm.eq_of_pairwise (le := (· ≤ ·)) (fun a b _ _ h1 h2 => List.le_antisymm h1 h2) ?_ (T.up.filter _) ?_
  · rw [List.pairwise_map]
    refine List.Pairwise.imp_of_mem ?_ (T.up.filter _)
    intro a b ha hb hab
    rw [List.mem_filter] at ha hb
    have hla : lst a = c := eq_of_beq ha.2
    have hlb : lst b = c := eq_of_beq hb.2
    show ¬ (rotR b < rotR a)
    intro q
    unfold rotR at q
    rw [hla, hlb, List.cons_lt_cons_iff] at q
    rcases q with q | ⟨_, q⟩
    · exact absurd q (Int.lt_irrefl _)
    · apply hab
      rw [split_last (T.rne ha.1), split_last (T.rne hb.1)]
      exact lt_append _ _ (by rw [List.length_dropLast, List.length_dropLast, T.len ha.1, T.len hb.1]) q
  · have e : (rows.filter (fun r => lst r == c)).map rotR = (rows.map rotR).filter (fun r => hd r == c) := by
      rw [List.filter_map]
      rfl
    rw [e]
    exact (((T.perm.map rotR).trans (rots_rotR T.ne)).trans T.perm.symm).filter _

theorem Turned.hd_le {a b : List Int} (ha : a ∈ rows) (hb : b ∈ rows) (h : a ≤ b) : hd a ≤ hd b := by
  cases a with
  | nil => exact absurd rfl (T.rne ha)
  | cons x t =>
    cases b with
    | nil => exact absurd rfl (T.rne hb)
    | cons y u =>
      rw [List.cons_le_cons_iff] at h
      show x ≤ y
      omega

/-- from a row to the row turned by one -/
theorem Turned.step {i : Nat} {r : List Int} (h : rows[i]? = some r) :
    rows[rows.countP (fun r' => decide (hd r' < lst r)) + ((rows.map lst).take i).count (lst r)]? = some (rotR r) := by
  have hcol : ((rows.map lst).take i).count (lst r) = (rows.take i).countP (fun r' => lst r' == lst r) := by
    rw [← List.map_take, List.count, List.countP_map]
    rfl
  rw [hcol]
  have h1 := nth_filter (fun r' => lst r' == lst r) h (by simp)
  have h2 : ((rows.filter (fun r' => lst r' == lst r)).map rotR)[(rows.take i).countP (fun r' => lst r' == lst r)]? = some (rotR r) := by
    rw [List.getElem?_map, h1]; rfl
  rw [T.block] at h2
  generalize (rows.take i).countP (fun r' => lst r' == lst r) = t at h2 ⊢
  have f1 := (fall (fun r' => decide (hd r' < lst r)) (l := rows) (List.Pairwise.imp_of_mem (fun {a b} ha hb hab q => by
    have := T.hd_le ha hb hab
    simp only [decide_eq_true_eq] at q ⊢
    omega) T.up)).2
  rw [← List.getElem?_drop, f1]
  have f2 := (fall (fun r' => hd r' == lst r) (l := rows.filter (fun r' => !decide (hd r' < lst r))) (List.Pairwise.imp_of_mem (fun {a b} ha hb hab q => by
    rw [List.mem_filter] at ha hb
    have := T.hd_le ha.1 hb.1 hab
    have hna := ha.2
    simp only [Bool.not_eq_true', decide_eq_false_iff_not, beq_iff_eq] at q hna ⊢
    omega) (T.up.filter _))).1
  have f3 : (rows.filter (fun r' => !decide (hd r' < lst r))).filter (fun r' => hd r' == lst r) = rows.filter (fun r' => hd r' == lst r) := by
    rw [List.filter_filter]
    apply List.filter_congr
    intro a _
    by_cases q : hd a = lst r <;> simp [q]
  rw [f3] at f2
  have ht : t < (rows.filter (fun r' => hd r' == lst r)).length := by
    rcases Nat.lt_or_ge t (rows.filter (fun r' => hd r' == lst r)).length with q | q
    · exact q
    · rw [List.getElem?_eq_none q] at h2; cases h2
  rw [← f2] at h2 ht
  rw [List.length_take] at ht
  rw [List.getElem?_take_of_lt (by omega)] at h2
  exact h2

theorem Turned.less (c : Int) : rows.countP (fun r => decide (hd r < c)) = cs.countP (fun x => decide (x < c)) := by
  rw [T.perm.countP_eq]
  have := rots_hd cs
  conv => rhs; rw [← this, List.countP_map]
  rfl

theorem take_mono {a b : List Int} {m : Nat} (hl : a.length = b.length) (h : a ≤ b) : a.take m ≤ b.take m := by
  intro q
  apply h
  rw [← List.take_append_drop m a, ← List.take_append_drop m b]
  exact lt_append _ _ (by simp [hl]) q

/-- from a bound among the rows to the bound for one sign more ahead -/
theorem Turned.bound (c : Int) (m : Nat) (hm : m < cs.length) (q q' : List Int → Bool) (hq : ∀ a b : List Int, a ≤ b → q b = true → q a = true) (hq' : ∀ x t, q' (x :: t) = (decide (x < c) || (x == c && q t))) :
    rows.countP (fun r => q' (r.take (m + 1))) = rows.countP (fun r => decide (hd r < c)) + ((rows.map lst).take (rows.countP (fun r => q (r.take m)))).count c := by
  have f := (fall (fun r => q (r.take m)) (l := rows) (List.Pairwise.imp_of_mem (fun {a b} ha hb hab z => hq _ _ (take_mono T (by rw [T.len ha, T.len hb]) hab) z) T.up)).1
  have hcol : ((rows.map lst).take (rows.countP (fun r => q (r.take m)))).count c = rows.countP (fun r => lst r == c && q (r.take m)) := by
    rw [← List.map_take, f, List.count, List.countP_map, List.countP_filter]
    rfl
  rw [hcol]
  have h2 : rows.countP (fun r => lst r == c && q (r.take m)) = rows.countP (fun r => hd r == c && q (r.tail.take m)) := by
    have e1 : rows.countP (fun r => lst r == c && q (r.take m)) = (rows.filter (fun r => lst r == c)).countP (fun r => q (r.take m)) := by
      rw [List.countP_filter]
      apply List.countP_congr
      intro a _
      rw [Bool.and_comm]
    have e2 : rows.countP (fun r => hd r == c && q (r.tail.take m)) = (rows.filter (fun r => hd r == c)).countP (fun r => q (r.tail.take m)) := by
      rw [List.countP_filter]
      apply List.countP_congr
      intro a _
      rw [Bool.and_comm]
    rw [e1, e2, ← T.block c, List.countP_map]
    apply List.countP_congr
    intro a ha
    have hm' := (List.mem_filter.mp ha).1
    have : (rotR a).tail.take m = a.take m := by
      show a.dropLast.take m = _
      rw [List.dropLast_eq_take, List.take_take, T.len hm']
      congr 1
      omega
    simp only [Function.comp_apply, this]
  rw [h2]
  have key : ∀ l : List (List Int), (∀ r ∈ l, r ≠ []) → l.countP (fun r => q' (r.take (m + 1))) = l.countP (fun r => decide (hd r < c)) + l.countP (fun r => hd r == c && q (r.tail.take m)) := by
    intro l
    induction l with
    | nil => intro _; rfl
    | cons r t ih =>
      intro h
      rw [List.countP_cons, List.countP_cons, List.countP_cons, ih fun r hr => h r (.tail _ hr)]
      cases r with
      | nil => exact absurd rfl (h _ (.head _))
      | cons x u =>
        rw [List.take_succ_cons, hq']
        have e1 : hd (x :: u) = x := rfl
        rw [e1]
        simp only [List.tail_cons]
        by_cases h1 : x < c
        · have h3 : (x == c) = false := beq_false_of_ne (by omega)
          simp [h1, h3]; omega
        · simp [h1]; omega
  exact key rows fun r hr => T.rne hr

def lo (rows : List (List Int)) (P : List Int) : Nat := rows.countP (fun r => decide (r.take P.length < P))
def hi' (rows : List (List Int)) (P : List Int) : Nat := rows.countP (fun r => decide (r.take P.length ≤ P))

theorem Turned.lo_step (c : Int) (P : List Int) (h : P.length < cs.length) : lo rows (c :: P) = cs.countP (fun x => decide (x < c)) + ((rows.map lst).take (lo rows P)).count c := by
  rw [← T.less]
  refine T.bound c P.length h (fun t => decide (t < P)) (fun t => decide (t < c :: P)) (fun a b hab hb => ?_) fun x t => ?_
  · simp only [decide_eq_true_eq] at *
    exact List.lt_of_le_of_lt hab hb
  · rw [show decide (x :: t < c :: P) = decide (x < c ∨ x = c ∧ t < P) from decide_eq_decide.mpr List.cons_lt_cons_iff]
    simp [Bool.decide_or, Bool.decide_and]
    rfl
theorem Turned.hi_step (c : Int) (P : List Int) (h : P.length < cs.length) : hi' rows (c :: P) = cs.countP (fun x => decide (x < c)) + ((rows.map lst).take (hi' rows P)).count c := by
  rw [← T.less]
  refine T.bound c P.length h (fun t => decide (t ≤ P)) (fun t => decide (t ≤ c :: P)) (fun a b hab hb => ?_) fun x t => ?_
  · simp only [decide_eq_true_eq] at *
    exact List.le_trans hab hb
  · rw [show decide (x :: t ≤ c :: P) = decide (x < c ∨ x = c ∧ t ≤ P) from decide_eq_decide.mpr List.cons_le_cons_iff]
    simp [Bool.decide_or, Bool.decide_and]
    rfl
theorem Turned.lo_nil : lo rows [] = 0 := by
  unfold lo
  rw [List.countP_eq_zero]
  intro a _
  simp
theorem Turned.hi_nil : hi' rows [] = cs.length := by
  unfold hi'
  rw [← T.size]
  rw [List.countP_eq_length]
  intro a _
  simp

/-- between the bounds stand the rows that open so -/
theorem Turned.between (P : List Int) : ((rows.map lst).take (hi' rows P)).drop (lo rows P) = (rows.filter (fun r => r.take P.length == P)).map lst := by
  have f1 := (fall (fun r => decide (r.take P.length ≤ P)) (l := rows) (List.Pairwise.imp_of_mem (fun {a b} ha hb hab z => by
    simp only [decide_eq_true_eq] at z ⊢
    exact List.le_trans (take_mono T (by rw [T.len ha, T.len hb]) hab) z) T.up)).1
  have f2 := (fall (fun r => decide (r.take P.length < P)) (l := rows.filter (fun r => decide (r.take P.length ≤ P))) (List.Pairwise.imp_of_mem (fun {a b} ha hb hab z => by
    have ha' := (List.mem_filter.mp ha).1
    have hb' := (List.mem_filter.mp hb).1
    simp only [decide_eq_true_eq] at z ⊢
    exact List.lt_of_le_of_lt (take_mono T (by rw [T.len ha', T.len hb']) hab) z) (T.up.filter _))).2
  have hlo : (rows.filter (fun r => decide (r.take P.length ≤ P))).countP (fun r => decide (r.take P.length < P)) = lo rows P := by
    rw [List.countP_filter]
    unfold lo
    apply List.countP_congr
    intro a _
    simp only [Bool.and_eq_true, decide_eq_true_eq]
    exact ⟨fun h => h.1, fun h => ⟨h, List.le_of_lt h⟩⟩
  rw [hlo] at f2
  rw [← List.map_take, ← List.map_drop]
  unfold hi'
  rw [f1, f2, List.filter_filter]
  congr 1
  apply List.filter_congr
  intro a _
  by_cases e : a.take P.length = P
  · rw [e]
    simp [List.lt_irrefl]
  · simp only [beq_false_of_ne e, Bool.and_eq_false_iff, Bool.not_eq_false', decide_eq_true_eq, decide_eq_false_iff_not]
    by_cases h1 : a.take P.length < P
    · exact .inl h1
    · refine .inr fun h2 => e (List.le_antisymm h2 (List.not_lt.mp h1))
end

theorem idx_less {c : Int} : ∀ {l : List Int}, l.Pairwise (· ≤ ·) → c ∈ l → l.idxOf c = l.countP (fun x => decide (x < c))
  | a :: t, h, hc => by
    rw [List.pairwise_cons] at h
    by_cases e : a = c
    · subst e
      rw [List.idxOf_cons_self]
      symm
      rw [List.countP_eq_zero]
      intro b hb
      rcases List.mem_cons.mp hb with rfl | hb
      · simp
      · have := h.1 b hb; simp; omega
    · have hc' : c ∈ t := by
        rcases List.mem_cons.mp hc with q | q
        · exact absurd q.symm e
        · exact q
      have hle := h.1 c hc'
      rw [List.idxOf_cons, beq_false_of_ne e, List.countP_cons_of_pos (by simp; omega), ← idx_less h.2 hc']
      rfl
end Mine
namespace Mine

def High (c : Nat) : Prop := 64 ≤ c ∧ c < 128
theorem high_div {c : Nat} (h : High c) : c / 64 % 2 = 1 := by unfold High at h; omega
theorem low_div {c : Nat} (h : c < 64) : ¬ c / 64 % 2 = 1 := by omega

/-- the number that a row of digits spells -/
def num (v : Nat) : List Nat → Nat
  | [] => v
  | d :: r => num (v * 64 + d % 64) r
theorem num_append : ∀ (a b : List Nat) (v : Nat), num v (a ++ b) = num (num v a) b
  | [], b, v => rfl
  | d :: r, b, v => num_append r b _
theorem num_le : ∀ (a : List Nat) (v : Nat), v ≤ num v a
  | [], v => Nat.le_refl _
  | d :: r, v => by have := num_le r (v * 64 + d % 64); unfold num; omega
theorem num_hi (m : Nat) : num 0 (hi m) = m := by
  induction m using Nat.strongRecOn with
  | _ m ih =>
    rw [hi_eq]
    by_cases q : 63 < m
    · rw [if_pos q, num_append, ih (m / 64) (by omega)]
      show m / 64 * 64 + (64 + m % 64) % 64 = m
      omega
    · rw [if_neg q]
      show 0 * 64 + (64 + m % 64) % 64 = m
      omega
theorem num_spelled (m : Nat) : num 0 (spelled m) = m := by
  unfold spelled
  by_cases q : 63 < m
  · rw [if_pos q, num_append, num_hi]
    show m / 64 * 64 + m % 64 % 64 = m
    omega
  · rw [if_neg q]
    show 0 * 64 + m % 64 % 64 = m
    omega
theorem spelled_inj {a b : Nat} (h : spelled a = spelled b) : a = b := by
  rw [← num_spelled a, h, num_spelled]
theorem hi_high (m : Nat) : ∀ c ∈ hi m, High c := by
  induction m using Nat.strongRecOn with
  | _ m ih =>
    intro c hc
    rw [hi_eq] at hc
    rcases List.mem_append.mp hc with hc | hc
    · by_cases q : 63 < m
      · rw [if_pos q] at hc; exact ih _ (by omega) c hc
      · rw [if_neg q] at hc; cases hc
    · rw [List.mem_singleton.mp hc]; unfold High; omega
theorem spelled_shape (m : Nat) : ∃ hs t, spelled m = hs ++ [t] ∧ (∀ h ∈ hs, High h) ∧ t < 64 := by
  refine ⟨_, _, rfl, fun h hh => ?_, Nat.mod_lt _ (by decide)⟩
  by_cases q : 63 < m
  · rw [if_pos q] at hh; exact hi_high _ h hh
  · rw [if_neg q] at hh; cases hh

theorem hi_num : ∀ (n : Nat) (h0 : Nat) (hs : List Nat), hs.length = n → High h0 → h0 ≠ 64 → (∀ h ∈ hs, High h) → hi (num 0 (h0 :: hs)) = h0 :: hs ∧ 1 ≤ num 0 (h0 :: hs) := by
  intro n
  induction n with
  | zero =>
    intro h0 hs hl hh hne hhs
    have : hs = [] := List.length_eq_zero_iff.mp hl
    subst this
    unfold High at hh
    have e : num 0 [h0] = h0 % 64 := by show 0 * 64 + h0 % 64 = _; omega
    rw [e, hi_eq, if_neg (by omega)]
    refine ⟨?_, by omega⟩
    simp; omega
  | succ n ih =>
    intro h0 hs hl hh hne hhs
    have hne' : hs ≠ [] := by intro q; rw [q] at hl; cases hl
    obtain ⟨hs', h, rfl⟩ : ∃ hs' h, hs = hs' ++ [h] := ⟨_, _, (List.dropLast_concat_getLast hne').symm⟩
    have hl' : hs'.length = n := by simpa using hl
    obtain ⟨ih1, ih2⟩ := ih h0 hs' hl' hh hne fun x hx => hhs x (List.mem_append_left _ hx)
    have hhh := hhs h (List.mem_append_right _ (.head _))
    have e : num 0 (h0 :: (hs' ++ [h])) = num 0 (h0 :: hs') * 64 + h % 64 := by
      rw [← List.cons_append, num_append]; rfl
    rw [e, hi_eq, if_pos (by omega), show (num 0 (h0 :: hs') * 64 + h % 64) / 64 = num 0 (h0 :: hs') by omega, ih1]
    refine ⟨?_, by omega⟩
    rw [show 64 + (num 0 (h0 :: hs') * 64 + h % 64) % 64 = h by unfold High at hhh; omega]
    rfl
theorem spelled_num {hs : List Nat} {t : Nat} (hhs : ∀ h ∈ hs, High h) (hne : ∀ h ∈ hs, h ≠ 64) (ht : t < 64) : spelled (num 0 (hs ++ [t])) = hs ++ [t] := by
  have e : num 0 (hs ++ [t]) = num 0 hs * 64 + t % 64 := by rw [num_append]; rfl
  rw [e]
  unfold spelled
  cases hs with
  | nil =>
    show (if 63 < 0 * 64 + t % 64 then _ else _) ++ _ = _
    rw [if_neg (by omega)]
    show [(0 * 64 + t % 64) % 64] = [t]
    congr 1
    omega
  | cons h0 hs' =>
    obtain ⟨a, b⟩ := hi_num _ h0 hs' rfl (hhs _ (.head _)) (hne _ (.head _)) fun x hx => hhs x (.tail _ hx)
    rw [if_pos (by omega), show (num 0 (h0 :: hs') * 64 + t % 64) / 64 = num 0 (h0 :: hs') by omega, a, show (num 0 (h0 :: hs') * 64 + t % 64) % 64 = t by omega]

theorem takeNum_word : ∀ (hs : List Nat) (t v : Nat) (r : List Nat), (∀ h ∈ hs, High h) → t < 64 → takeNum v (hs ++ t :: r) = some (num v (hs ++ [t]), hs.length + 1)
  | [], t, v, r, _, ht => by
    show takeNum v (t :: r) = _
    unfold takeNum
    rw [if_neg (low_div ht)]
    rfl
  | h :: hs, t, v, r, hh, ht => by
    rw [List.cons_append]
    unfold takeNum
    rw [if_pos (high_div (hh h (.head _))), takeNum_word hs t _ r (fun x hx => hh x (.tail _ hx)) ht]
    rfl

/-- codes of signs that end low fall into words -/
theorem words (n : Nat) : ∀ C : List Nat, C.length = n → (∀ c ∈ C, c < 128 ∧ c ≠ 64) → (C = [] ∨ ∃ C' t, C = C' ++ [t] ∧ t < 64) → ∃ nums, ReadsTo C nums ∧ C = (nums.map spelled).flatten := by
  induction n using Nat.strongRecOn with
  | _ n ih =>
    intro C hl hC hend
    rcases hend with rfl | ⟨C', t, rfl, ht⟩
    · exact ⟨[], .nil, rfl⟩
    · -- the first word
      have ex : ∀ (D : List Nat), (∀ c ∈ D, c < 128 ∧ c ≠ 64) → ∃ hs t' r, D ++ [t] = hs ++ t' :: r ∧ (∀ h ∈ hs, High h ∧ h ≠ 64) ∧ t' < 64 ∧ (r = [] ∨ ∃ r', r = r' ++ [t]) := by
        intro D
        induction D with
        | nil => intro _; exact ⟨[], t, [], rfl, (fun h hh => absurd hh List.not_mem_nil), ht, .inl rfl⟩
        | cons d D ihD =>
          intro hD
          by_cases q : d < 64
          · exact ⟨[], d, D ++ [t], rfl, (fun h hh => absurd hh List.not_mem_nil), q, .inr ⟨D, rfl⟩⟩
          · obtain ⟨hs, t', r, e, h1, h2, h3⟩ := ihD fun c hc => hD c (.tail _ hc)
            refine ⟨d :: hs, t', r, by rw [List.cons_append, e]; rfl, fun h hh => ?_, h2, h3⟩
            rcases List.mem_cons.mp hh with rfl | hh
            · have := hD h (.head _); exact ⟨⟨by omega, this.1⟩, this.2⟩
            · exact h1 h hh
      obtain ⟨hs, t', r, e, h1, h2, h3⟩ := ex C' fun c hc => hC c (List.mem_append_left _ hc)
      rw [e] at hC hl ⊢
      obtain ⟨nums, hr, hn⟩ := ih r.length (by rw [← hl]; simp; omega) r rfl (fun c hc => hC c (List.mem_append_right _ (.tail _ hc))) (by
        rcases h3 with rfl | ⟨r', rfl⟩
        · exact .inl rfl
        · exact .inr ⟨r', t, rfl, ht⟩)
      refine ⟨num 0 (hs ++ [t']) :: nums, .cons (takeNum_word hs t' 0 r (fun h hh => (h1 h hh).1) h2) ?_, ?_⟩
      · have : (hs ++ t' :: r).drop (hs.length + 1) = r := by
          rw [← List.drop_drop, List.drop_left]; rfl
        rw [this]
        exact hr
      · rw [List.map_cons, List.flatten_cons, spelled_num (fun h hh => (h1 h hh).1) (fun h hh => (h1 h hh).2) h2, ← hn]
        simp

theorem takeNum_congr : ∀ {a b : List Nat} {v : Nat}, a.map (· % 128) = b.map (· % 128) → takeNum v a = takeNum v b
  | [], [], v, _ => rfl
  | [], _ :: _, v, h => by cases h
  | _ :: _, [], v, h => by cases h
  | x :: a, y :: b, v, h => by
    simp only [List.map_cons, List.cons.injEq] at h
    have e1 : x / 64 % 2 = y / 64 % 2 := by omega
    have e2 : x % 64 = y % 64 := by omega
    unfold takeNum
    rw [e1, e2, takeNum_congr h.2]
theorem readsTo_congr {b nums : List Nat} (h : ReadsTo b nums) : ∀ {a : List Nat}, a.map (· % 128) = b.map (· % 128) → ReadsTo a nums := by
  induction h with
  | nil =>
    intro a e
    have : a = [] := by simpa using e
    subst this
    exact .nil
  | cons h1 _ ih =>
    intro a e
    refine .cons ((takeNum_congr e).trans h1) (ih ?_)
    rw [List.map_drop, List.map_drop, e]

/-- how often a word stands at a word's head -/
def occ (P : List Nat) : Bool → List Nat → Nat
  | _, [] => 0
  | b, c :: r => (if b && P.isPrefixOf (c :: r) then 1 else 0) + occ P (decide (c < 64)) r

theorem occ_cons (P : List Nat) (b : Bool) (c : Nat) (r : List Nat) : occ P b (c :: r) = (if b && P.isPrefixOf (c :: r) then 1 else 0) + occ P (decide (c < 64)) r := rfl
theorem occ_range (P : List Nat) : ∀ (l : List Nat) (b : Bool), (List.range l.length).countP (fun k => (if k = 0 then b else decide (l.getD (k - 1) 0 < 64)) && P.isPrefixOf (l.drop k)) = occ P b l
  | [], b => rfl
  | c :: r, b => by
    rw [List.length_cons, List.range_succ_eq_map, List.countP_cons, List.countP_map, Nat.add_comm]
    unfold occ
    congr 1
    rw [← occ_range P r (decide (c < 64))]
    apply List.countP_congr
    intro k _
    simp only [Function.comp_apply, Nat.succ_ne_zero, if_false, Nat.succ_eq_add_one, Nat.add_sub_cancel, List.drop_succ_cons]
    cases k with
    | zero => simp
    | succ k => simp

theorem occ_false (P : List Nat) : ∀ (hs : List Nat) (t : Nat) (r : List Nat), (∀ h ∈ hs, High h) → t < 64 → occ P false (hs ++ t :: r) = occ P true r
  | [], t, r, _, ht => by
    show occ P false (t :: r) = _
    rw [occ_cons]
    simp [ht]
  | h :: hs, t, r, hh, ht => by
    rw [List.cons_append, occ_cons]
    have := hh h (.head _)
    rw [show decide (h < 64) = false by simp; exact this.1, occ_false P hs t r (fun x hx => hh x (.tail _ hx)) ht]
    simp
theorem word_prefix : ∀ {a b : List Nat} {t u : Nat} {r : List Nat}, (∀ h ∈ a, High h) → (∀ h ∈ b, High h) → t < 64 → u < 64 → a ++ [t] <+: b ++ u :: r → a ++ [t] = b ++ [u]
  | [], [], t, u, r, _, _, _, _, h => by
    rw [List.nil_append, List.nil_append, List.cons_prefix_cons] at h
    rw [h.1]
  | [], y :: b, t, u, r, _, hb, ht, _, h => by
    rw [List.nil_append, List.cons_append, List.cons_prefix_cons] at h
    have := hb y (.head _)
    unfold High at this
    omega
  | x :: a, [], t, u, r, ha, _, _, hu, h => by
    rw [List.nil_append, List.cons_append, List.cons_prefix_cons] at h
    have := ha x (.head _)
    unfold High at this
    omega
  | x :: a, y :: b, t, u, r, ha, hb, ht, hu, h => by
    rw [List.cons_append, List.cons_append, List.cons_prefix_cons] at h
    rw [List.cons_append, List.cons_append, h.1, word_prefix (fun z hz => ha z (.tail _ hz)) (fun z hz => hb z (.tail _ hz)) ht hu h.2]
theorem occ_words (N : Nat) : ∀ nums : List Nat, occ (spelled N) true (nums.map spelled).flatten = nums.count N
  | [] => rfl
  | m :: nums => by
    have ih := occ_words N nums
    rw [List.map_cons, List.flatten_cons]
    obtain ⟨hs, t, e, h1, h2⟩ := spelled_shape m
    obtain ⟨hs', t', e', h1', h2'⟩ := spelled_shape N
    have hpre : (spelled N).isPrefixOf (spelled m ++ (nums.map spelled).flatten) = decide (m = N) := by
      by_cases q : m = N
      · subst q
        rw [decide_eq_true rfl, List.isPrefixOf_iff_prefix]
        exact List.prefix_append _ _
      · rw [decide_eq_false q, ← Bool.not_eq_true, List.isPrefixOf_iff_prefix]
        intro hp
        rw [e', e, List.append_assoc] at hp
        have := word_prefix h1' h1 h2' h2 hp
        exact q (spelled_inj (by rw [e, e', this]))
    have step : occ (spelled N) true (spelled m ++ (nums.map spelled).flatten) = (if (spelled N).isPrefixOf (spelled m ++ (nums.map spelled).flatten) then 1 else 0) + occ (spelled N) true (nums.map spelled).flatten := by
      rw [e, List.append_assoc]
      cases hs with
      | nil =>
        show occ _ true (t :: (nums.map spelled).flatten) = _
        rw [occ]
        simp [h2]
      | cons h hs =>
        show occ _ true (h :: (hs ++ t :: (nums.map spelled).flatten)) = _
        have hh := h1 h (.head _)
        rw [occ, show decide (h < 64) = false by simp; exact hh.1, occ_false _ hs t _ (fun x hx => h1 x (.tail _ hx)) h2]
        simp
    rw [step, hpre, ih, List.count_cons]
    by_cases q : m = N
    · simp [q]; omega
    · simp [q]
end Mine
namespace Mine
open PySem

abbrev zs (C : List Nat) : List Int := C.map Int.ofNat
theorem zs_inj {a b : List Nat} (h : zs a = zs b) : a = b := by
  induction a generalizing b with
  | nil =>
    cases b with
    | nil => rfl
    | cons _ _ => cases h
  | cons x a ih =>
    cases b with
    | nil => cases h
    | cons y b =>
      simp only [zs, List.map_cons, List.cons.injEq] at h
      rw [ih h.2, Int.ofNat.inj h.1]
theorem rot_zs (C : List Nat) (k : Nat) : rot (zs C) k = zs (C.drop k ++ C.take k) := by
  unfold rot zs
  rw [List.map_append, List.map_drop, List.map_take]
theorem bit0 {c : Nat} (h : c < 128) : (Builtin.bitAnd (Int.ofNat c) 64 == 0) = decide (c < 64) := by
  show (Builtin.bitAnd (c : Int) 64 == 0) = _
  rw [and64]
  by_cases q : c < 64
  · rw [show c / 64 % 2 * 64 = 0 by omega, decide_eq_true q]; rfl
  · rw [show c / 64 % 2 * 64 = 64 by omega, decide_eq_false q]; rfl

theorem count_law {C nums : List Nat} {N : Nat} {rows : List (List Int)} (hC : ∀ c ∈ C, c < 128 ∧ c ≠ 64) (hend : ∃ z, C = z ++ [10]) (hw : C = (nums.map spelled).flatten) (T : Turned (zs C) rows) :
    ((((rows.map lst).take (hi' rows (zs (spelled N)))).drop (lo rows (zs (spelled N)))).map (fun c => Builtin.bitAnd c 64)).count 0 = nums.count N := by
  rw [T.between, List.count, List.countP_map, List.countP_map, List.countP_filter, T.perm.countP_eq]
  unfold rots
  rw [List.countP_map, show (zs C).length = C.length from List.length_map _, ← occ_words N nums, ← hw, ← occ_range]
  apply List.countP_congr
  intro k hk
  have hk' : k < C.length := by simpa using hk
  obtain ⟨z, hz⟩ := hend
  obtain ⟨hs, t, hsp, hh, ht⟩ := spelled_shape N
  have hlz : C.length = z.length + 1 := by rw [hz]; simp
  -- the sign ahead
  have hB : (Builtin.bitAnd (lst (rot (zs C) k)) 64 == 0) = (if k = 0 then true else decide (C.getD (k - 1) 0 < 64)) := by
    cases k with
    | zero =>
      rw [rot_zero, if_pos rfl]
      have : zs C = zs z ++ [10] := by rw [hz]; unfold zs; rw [List.map_append]; rfl
      rw [this, lst_append]
      decide
    | succ k =>
      have hkl : k < (zs C).length := by rw [List.length_map]; omega
      rw [(rotR_rot hkl).2, if_neg (Nat.succ_ne_zero k)]
      have hk2 : k < C.length := by omega
      have e : (zs C).getD k 0 = Int.ofNat (C.getD k 0) := by
        rw [List.getD_eq_getElem?_getD, List.getElem?_map, List.getD_eq_getElem?_getD, List.getElem?_eq_getElem hk2]
        rfl
      rw [e, bit0]
      · rfl
      · rw [List.getD_eq_getElem?_getD, List.getElem?_eq_getElem hk2]
        exact (hC _ (List.getElem_mem _)).1
  -- the row's opening
  have hA : ((rot (zs C) k).take (zs (spelled N)).length == zs (spelled N)) = (spelled N).isPrefixOf (C.drop k) := by
    rw [rot_zs, List.length_map]
    have e1 : (zs (C.drop k ++ C.take k)).take (spelled N).length = zs ((C.drop k ++ C.take k).take (spelled N).length) := by unfold zs; rw [List.map_take]
    rw [e1]
    have iff : ((C.drop k ++ C.take k).take (spelled N).length = spelled N) ↔ spelled N <+: C.drop k := by
      constructor
      · intro h
        rcases Nat.lt_or_ge (C.length - k) (spelled N).length with hm | hm
        · exfalso
          have g1 : ((C.drop k ++ C.take k).take (spelled N).length)[C.length - k - 1]? = some 10 := by
            rw [List.getElem?_take_of_lt (by omega), List.getElem?_append_left (by rw [List.length_drop]; omega), List.getElem?_drop, show k + (C.length - k - 1) = z.length by omega, hz]
            simp
          rw [h, hsp] at g1
          rw [hsp, List.length_append, List.length_singleton] at hm
          rw [List.getElem?_append_left (by omega)] at g1
          have := hh 10 (List.mem_of_getElem? g1)
          unfold High at this
          omega
        · rw [List.take_append_of_le_length (by rw [List.length_drop]; exact hm)] at h
          rw [← h]
          exact List.take_prefix _ _
      · intro h
        obtain ⟨r, hr⟩ := h
        rw [← hr, List.append_assoc, List.take_left]
    by_cases q : (C.drop k ++ C.take k).take (spelled N).length = spelled N
    · rw [q]
      have h1 := List.isPrefixOf_iff_prefix.mpr (iff.mp q)
      rw [h1]
      exact beq_self_eq_true _
    · rw [beq_false_of_ne fun e => q (zs_inj e)]
      have h1 : ¬ (spelled N).isPrefixOf (C.drop k) = true := fun e => q (iff.mpr (List.isPrefixOf_iff_prefix.mp e))
      rw [Bool.eq_false_iff.mpr h1]
  show ((_ && _) = true ↔ (_ && _) = true)
  simp only [Function.comp_apply]
  rw [hB, hA]
theorem spelled_len {C nums : List Nat} {N : Nat} (hw : C = (nums.map spelled).flatten) (hN : N ∈ nums) : (spelled N).length ≤ C.length := by
  have h1 : spelled N ∈ nums.map spelled := List.mem_map_of_mem hN
  rw [hw]
  exact (List.sublist_flatten_of_mem h1).length_le
theorem spelled_sub {C nums : List Nat} {N : Nat} (hw : C = (nums.map spelled).flatten) (hN : N ∈ nums) : ∀ c ∈ spelled N, c ∈ C := by
  intro c hc
  rw [hw]
  exact List.mem_flatten.mpr ⟨_, List.mem_map_of_mem hN, hc⟩
end Mine
namespace Mine
open PySem PySem.W PyProof.Rows

/-- what takes a next thing from an iterator and binds it -/
structure Turner (prog : Program) (w : World) (A : Around) (env : Env) (target : Expr) (it : Addr) (fp Y : List Addr) (n : Nat) (St : Nat → Heap → Prop) (B : Nat → (Str → Option Value) → Prop) : Prop where
  live : ∀ i h, St i h → ∀ a ∈ Y, ∃ o, h.get? a = some o
  frame : ∀ i h h', St i h → (∀ b ∈ fp, ∀ o, h.get? b = some o → h'.get? b = some o) → St i h'
  item : ∀ (s₀ : Shared) (X : List Addr) (g : Heap) (m cm : Str → Option Value) (s : Shared) (i : Nat) (P Q : Shared → Prop) (E : Value → Shared → Prop), i < n → LF s₀ X g env m cm s → (∀ a ∈ Y, a ∈ X) → St i s.heap →
    (∀ m' s', B i m' → LF s₀ X g env m' cm s' → St (i + 1) s'.heap → (∀ b o, b ≠ env.locals → b ∉ Y → s.heap.get? b = some o → s'.heap.get? b = some o) → s.toks ≤ s'.toks → Q s') →
    wpAny (model prog w) A (pyNext (.ref it)) (fun r s₁ => match r with
      | none => P s₁
      | some v => wpAny (model prog w) A (letOwnedTupleGo target (.ref it) v) (fun _ s₂ => wpAny (model prog w) A (assign target env v) (fun _ s₃ => Q s₃) E s₂) E s₁) E s
  done : ∀ (s₀ : Shared) (X : List Addr) (g : Heap) (m cm : Str → Option Value) (s : Shared) (K : Value → Shared → Prop) (P : Shared → Prop) (E : Value → Shared → Prop), LF s₀ X g env m cm s → (∀ a ∈ Y, a ∈ X) → St n s.heap →
    (∀ s', LF s₀ X g env m cm s' → (∀ b o, b ∉ Y → s.heap.get? b = some o → s'.heap.get? b = some o) → s.toks ≤ s'.toks → P s') →
    wpAny (model prog w) A (pyNext (.ref it)) (fun r s₁ => match r with | none => P s₁ | some v => K v s₁) E s
  self : ∀ i (s : Shared) (Q : Value → Shared → Prop) (E : Value → Shared → Prop), St i s.heap → Q (.ref it) s → wpAny (model prog w) A (pyIter (.ref it)) Q E s

section
variable {prog : Program} {w : World} {A : Around} {env : Env}

theorem Turner.name {x : Str} {px : Pos} {I : Addr} {fp wr : List Addr} {n : Nat} {P : Nat → Value → Prop} {St : Nat → Heap → Prop} (W : Walks prog w A I fp wr n P St) (hfl : ∀ i h, St i h → ∀ a ∈ wr, Flds h a) (hL : env.locals ∉ fp)
    (hx : env.kindOf x = some .local) : Turner prog w A env (.Name x px) I fp wr n St (fun i m => ∃ v, P i v ∧ m x = some v) where
  live := fun i h x a ha => let ⟨o, e, _⟩ := hfl i h x a ha; ⟨o, e⟩
  frame := W.frame
  item := by
    intro s₀ X g m cm s i P' Q E hi F hY hst hq
    refine wpAny_with_toks (Nat.le_refl s.toks) (W.item i s _ _ hi hst fun v h' tk hP hst' hk htk => ?_)
    have F' := F.keepBut wr (fun a ha => ⟨hY a ha, hfl _ _ hst a ha⟩) hk htk
    show wpAny _ _ (pure ()) _ _ _
    refine wpAny_pure (F'.assign hx fun s' F'' kb ht => ?_)
    have := hq _ s' ⟨v, hP, if_pos rfl⟩ F'' (W.frame _ _ _ hst' fun b hb o e => kb b o (fun q => hL (q ▸ hb)) e) (fun b o h1 h2 e => kb b o h1 (hk b o h2 e)) (Nat.le_trans htk ht)
    exact this
  done := by
    intro s₀ X g m cm s K P' E F hY hst hq
    refine wpAny_with_toks (Nat.le_refl s.toks) (W.done s _ _ hst fun h' tk hk htk => ?_)
    exact hq _ (F.keepBut wr (fun a ha => ⟨hY a ha, hfl _ _ hst a ha⟩) hk htk) hk htk
  self := W.self
end

section
variable {prog : Program} {w : World} {A : Around} {E : Value → Shared → Prop} {R : Result → Shared → Prop} {s : Shared}

theorem compLoop_gen {elt target iter : Expr} {scope : Scope} {pos : Pos} {it acc : Value} {env : Env} (I : Nat → Shared → Prop)
    (turn : ∀ n s, I n s → wpAny (model prog w) A (pyNext it) (fun r s₁ => match r with
      | none => R (.ok .next) s₁
      | some v => wpAny (model prog w) A (letOwnedTupleGo target it v) (fun _ s₁' => wpAny (model prog w) A (assign target env v) (fun _ s₂ =>
          wpAny (model prog w) A (eval elt env) (fun x s₄ =>
              wpAny (model prog w) A (call (.builtin "list.append") [acc, x]) (fun _ s₅ => ∃ m, m < n ∧ I m s₅) (notedBy (model prog w) A env fun e s' => R (.error e) s') s₄) (notedBy (model prog w) A env fun e s' => R (.error e) s') s₂)
          (notedBy (model prog w) A env fun e s' => R (.error e) s') s₁') (notedBy (model prog w) A env fun e s' => R (.error e) s') s₁) (notedBy (model prog w) A env fun e s' => R (.error e) s') s)
    (n : Nat) (h : I n s) : codeAny (model prog w) A (.compLoop (.ListComp elt [⟨target, iter, [], 0⟩] scope pos) 0 it acc env) R s := by
  refine codeAny_loop rfl I (fun n s hI => ?_) n h
  show wpAny _ A ((compTurn (.ListComp elt [⟨target, iter, [], 0⟩] scope pos) 0 it acc env).onRaise (fun x => do noteFrame x env; theTreesLotGoes x)) _ _ s
  refine wpAny_noted ?_
  rw [compTurn_list]
  refine wpAny_bind (wpAny_standAt (wpAny_bind (wpAny_mono (turn n s hI) (fun r s₁ h₁ => ?_) fun _ _ h' => h')))
  cases r with
  | none => exact wpAny_pure h₁
  | some v =>
    refine wpAny_bind (wpAny_mono h₁ (fun _ s₁' h₁' => ?_) fun _ _ h' => h')
    refine wpAny_bind (wpAny_mono h₁' (fun _ s₂ h₂ => wpAny_bind (wpAny_mono (wpAny_tests_nil (Q := fun ok s₃ => ok = true ∧ s₃ = s₂) ⟨rfl, rfl⟩) (fun ok s₃ h₃ => ?_) fun _ _ h' => h')) fun _ _ h' => h')
    obtain ⟨rfl, rfl⟩ := h₃
    exact wpAny_bind (wpAny_bind (wpAny_mono h₂ (fun x s₄ h₄ => wpAny_bind (wpAny_mono h₄ (fun _ s₅ h₅ => wpAny_pure (wpAny_pure ⟨rfl, h₅⟩)) fun _ _ h' => h')) fun _ _ h' => h'))

/-- list.append to a plain list -/
theorem appendI {D : Addr} {vs : List Value} {v : Value} {Q : Value → Shared → Prop} (hD : LL s.heap D vs) (hz : vs.length ≤ sizeLine)
    (h : ∀ h', LL h' D (vs ++ [v]) → Heap.SameBut D s.heap h' → Q .none { s with heap := h' }) : wpAny (model prog w) A (call (.builtin "list.append") [.ref D, v]) Q E s := by
  obtain ⟨n, hn⟩ := hD
  refine wpAny_list_append_plain (l := D) (items := vs.toArray) ⟨n, hn⟩ (fun h' hp hs => h h' ?_ hs) (by simpa using hz)
  obtain ⟨n', hn'⟩ := hp
  exact ⟨n', by simpa using hn'⟩

theorem codeAny_compStart_list' {elt target iter ifs rest scope pos it acc env}
    (h0 : codeAny (model prog w) A (.compLoop (.ListComp elt (⟨target, iter, ifs, 0⟩ :: rest) scope pos) 0 it acc env) R s)
    (h : wpAny (model prog w) A (pyIter it) (fun it' s' => codeAny (model prog w) A (.compLoop (.ListComp elt (⟨target, iter, ifs, 0⟩ :: rest) scope pos) 0 it' acc env) R s')
      (notedBy (model prog w) A env fun x s' => R (.error x) s') s) :
    codeAny (model prog w) A (.compStart (.ListComp elt (⟨target, iter, ifs, 0⟩ :: rest) scope pos) 0 it acc env) R s := codeAny_compStart_list h0 h

theorem ne_some {h : Heap} {a b : Addr} {o : Obj} (ha : h.get? a = none) (hb : h.get? b = some o) : b ≠ a := by
  rintro rfl
  rw [ha] at hb; cases hb

theorem comp_loop {elt target iter : Expr} {scope : Scope} {cl : List (Str × Addr)} {pos : Pos} {env : Env} {s₂ : Shared} {I C D : Addr} {fp Y : List Addr} {n : Nat} {St : Nat → Heap → Prop} {B : Nat → (Str → Option Value) → Prop}
    {cmc m : Str → Option Value} {RR : Value → Addr → Result → Shared → Prop} {h₁ : Heap} (J : Nat → Heap → Nat → List Value → Prop)
    (hkind : scope.kind = .function) (hn : n ≤ sizeLine)
    (hcm : ∀ x c, cl.lookup x = some c → s₂.heap.IsCell c (cmc x)) (hinj : ∀ x c y, cl.lookup x = some c → cl.lookup y = some c → x = y) (hcs : ∀ c ∈ cl.map (·.2), ∃ x, cl.lookup x = some c)
    (TC : Turner prog w A (compEnvC scope cl C env) target I fp Y n St B) (hst : St 0 s₂.heap) (hYf : ∀ b ∈ Y, b ∈ fp)
    (hDC : D ≠ C) (hC2 : s₂.heap.get? C = none) (hD2 : s₂.heap.get? D = none) (hCf : C ∉ fp) (hDf : D ∉ fp) (old : Sub s₂.heap h₁) (hacc : LL h₁ D []) (hns₁ : h₁.Ns C m)
    (h0 : J 0 (hideAll s₂.heap (Y ++ cl.map (·.2))) s₂.toks []) (hJ : ∀ i h h' tk tk' ys, J i h tk ys → Sub h h' → tk ≤ tk' → J i h' tk' ys)
    (turn : ∀ (E' : Value → Shared → Prop) X g i ys m s₁, i < n → B i m → J i g s₁.toks ys → Sub (hideAll s₂.heap (Y ++ cl.map (·.2))) g → LF s₂ X g (compEnvC scope cl C env) m cmc s₁ →
      (∀ b o, b ∉ Y → s₂.heap.get? b = some o → s₁.heap.get? b = some o) → ys.length = i →
      wpAny (model prog w) A (eval elt (compEnvC scope cl C env)) (fun y s₃ => Kp s₁ s₃ ∧ ∀ g', Sub g g' → (∀ b o, s₃.heap.get? b = some o → s₁.heap.get? b = none → g'.get? b = some o) → J (i + 1) g' s₃.toks (ys ++ [y])) E' s₁)
    (hRR : ∀ g ys m' s', s'.heap.Ns C m' → LL s'.heap D ys → ys.length = n → Sub g s'.heap → g.get? C = none → g.get? D = none → J n g s'.toks ys → s₂.toks ≤ s'.toks →
      (∃ h tk, s' = { s₂ with heap := h, toks := tk }) → (∀ b o, b ∉ Y → s₂.heap.get? b = some o → s'.heap.get? b = some o) → RR (.ref D) C (.ok .next) s') :
    codeAny (model prog w) A (.compLoop (.ListComp elt [⟨target, iter, [], 0⟩] scope pos) 0 (.ref I) (.ref D) (compEnvC scope cl C env)) (RR (.ref D) C) { s₂ with heap := h₁ } := by
  have hst₁ : St 0 h₁ := TC.frame _ _ _ hst fun b _ o e => old b o e
  have cinX : ∀ x c, cl.lookup x = some c → c ∈ cl.map (·.2) := fun x c e => List.mem_map.mpr ⟨(x, c), by
    obtain ⟨l₁, l₂, hx, _⟩ := List.lookup_eq_some_iff.mp e
    rw [hx]; simp, rfl⟩
  have hid : ∀ a, s₂.heap.get? a = none → (hideAll s₂.heap (Y ++ cl.map (·.2))).get? a = none := fun a ha => by
    cases e : (hideAll s₂.heap (Y ++ cl.map (·.2))).get? a with
    | none => rfl
    | some o => rw [of_hideAll _ e] at ha; cases ha
  have base : LF s₂ (C :: D :: (Y ++ cl.map (·.2))) (hideAll s₂.heap (Y ++ cl.map (·.2))) (compEnvC scope cl C env) m cmc { s₂ with heap := h₁ } := by
    refine ⟨⟨_, _, rfl⟩, Nat.le_refl _, fun b o e => old b o (of_hideAll _ e), fun a ha => ?_, hns₁, .head _, fun x c e => (hcm x c e).keeps old, fun x c e => .tail _ (.tail _ (List.mem_append_right _ (cinX x c e))), hinj, hkind⟩
    rcases List.mem_cons.mp ha with q | ha
    · rw [q]; exact hid _ hC2
    rcases List.mem_cons.mp ha with q | ha
    · rw [q]; exact hid _ hD2
    · exact hideAll_none _ ha
  refine compLoop_gen (fun k s' => ∃ i g ys m', k = n - i ∧ i ≤ n ∧ ys.length = i ∧ Sub (hideAll s₂.heap (Y ++ cl.map (·.2))) g ∧ J i g s'.toks ys ∧ LF s₂ (C :: D :: (Y ++ cl.map (·.2))) g (compEnvC scope cl C env) m' cmc s' ∧
      St i s'.heap ∧ LL s'.heap D ys ∧ (∀ b o, b ∉ Y → s₂.heap.get? b = some o → s'.heap.get? b = some o)) ?_ n ⟨0, _, [], _, rfl, Nat.zero_le _, rfl, Sub.refl, h0, base, hst₁, hacc, fun b o _ e => old b o e⟩
  rintro k s' ⟨i, g, ys, m', rfl, hi, hlen, hg, hj, F, hst', hD', hk'⟩
  have hYX : ∀ a ∈ Y, a ∈ C :: D :: (Y ++ cl.map (·.2)) := fun a ha => .tail _ (.tail _ (List.mem_append_left _ ha))
  have hDY : D ∉ Y := fun h => hDf (hYf _ h)
  rcases Nat.lt_or_ge i n with hlt | hge
  · refine TC.item s₂ _ g m' cmc s' i _ _ _ hlt F hYX hst' fun m₁ s₁ hB F₁ hst₁ hk₁ ht₁ => ?_
    have hD₁ : LL s₁.heap D ys := let ⟨q, e⟩ := hD'; ⟨q, hk₁ _ _ hDC hDY e⟩
    have hk₁' : ∀ b o, b ∉ Y → s₂.heap.get? b = some o → s₁.heap.get? b = some o := fun b o hb e => hk₁ b o (ne_some hC2 e) hb (hk' b o hb e)
    refine wpAny_mono (turn _ _ g i ys m₁ s₁ hlt hB (hJ _ _ _ _ _ _ hj Sub.refl ht₁) hg F₁ hk₁' hlen) (fun y s₃ h₃ => ?_) fun _ _ e => e
    obtain ⟨K₃, hj₃⟩ := h₃
    obtain ⟨g', F', hgg, hg'⟩ := (F₁.kp K₃).ground
    refine appendI (hD₁.up K₃.sub) (Nat.le_trans (by rw [hlen]; exact Nat.le_of_lt hlt) hn) fun h₅ hD₅ hs₅ => ?_
    have F₅ := F'.keepBut [D] (by intro a ha; rw [List.mem_singleton.mp ha]; exact ⟨.tail _ (.head _), flds_LL (hD₁.up K₃.sub)⟩) (h' := h₅) (tk := s₃.toks) (fun b o hb x => hs₅.extBut b o (fun q => hb (q ▸ .head _)) x) (Nat.le_refl _)
    refine ⟨n - (i + 1), by omega, i + 1, g', ys ++ [y], m₁, rfl, hlt, by simp [hlen], hg.trans hgg, hj₃ g' hgg (fun b o e e1 => hg' b o (fun hb => ?_) e), F₅, ?_, hD₅, fun b o hb e => hs₅.extBut b o (ne_some hD2 e) (K₃.sub _ _ (hk₁' b o hb e))⟩
    · have ex : ∃ o', s₁.heap.get? b = some o' := by
        rcases List.mem_cons.mp hb with q | hb
        · obtain ⟨o, es, ep, ho, _⟩ := F₁.ns; rw [q]; exact ⟨o, ho⟩
        rcases List.mem_cons.mp hb with q | hb
        · obtain ⟨z, e⟩ := hD₁; rw [q]; exact ⟨_, e⟩
        rcases List.mem_append.mp hb with hb | hb
        · exact TC.live _ _ hst₁ b hb
        · obtain ⟨x, hx⟩ := hcs b hb
          obtain ⟨o, ho, _⟩ := F₁.cell x b hx; exact ⟨o, ho⟩
      obtain ⟨o', e'⟩ := ex
      rw [e1] at e'; cases e'
    · exact TC.frame _ _ _ hst₁ fun b hb o e => hs₅.extBut b o (fun q => hDf (q ▸ hb)) (K₃.sub _ _ e)
  · have hin : i = n := by omega
    subst hin
    refine TC.done s₂ _ g m' cmc s' _ _ _ F hYX hst' fun s₁ F₁ hk₁ ht₁ => ?_
    exact hRR g ys m' s₁ F₁.ns (let ⟨q, e⟩ := hD'; ⟨q, hk₁ _ _ hDY e⟩) hlen F₁.sub (F₁.off _ (.head _)) (F₁.off _ (.tail _ (.head _))) (hJ _ _ _ _ _ _ hj Sub.refl ht₁) F₁.tok F₁.same fun b o hb e => hk₁ b o hb (hk' b o hb e)

theorem comp_core {elt target iter : Expr} {scope : Scope} {cl : List (Str × Addr)} {pos : Pos} {env : Env} {s₂ : Shared} {I : Addr} {fp Y : List Addr} {n : Nat} {St : Nat → Heap → Prop} {B : Nat → (Str → Option Value) → Prop}
    {cmc : Str → Option Value} {RR : Value → Addr → Result → Shared → Prop} (J : Nat → Heap → Nat → List Value → Prop)
    (hcell : ∀ y ∈ scope.names, y.2 ≠ .cell) (hkind : scope.kind = .function) (hn : n ≤ sizeLine)
    (hcm : ∀ x c, cl.lookup x = some c → s₂.heap.IsCell c (cmc x)) (hinj : ∀ x c y, cl.lookup x = some c → cl.lookup y = some c → x = y) (hcs : ∀ c ∈ cl.map (·.2), ∃ x, cl.lookup x = some c)
    (T : ∀ C, C ∉ fp → Turner prog w A (compEnvC scope cl C env) target I fp Y n St B) (hst : St 0 s₂.heap) (hfp : ∀ b ∈ fp, b < s₂.heap.objs.size) (hYf : ∀ b ∈ Y, b ∈ fp)
    (h0 : J 0 (hideAll s₂.heap (Y ++ cl.map (·.2))) s₂.toks []) (hJ : ∀ i h h' tk tk' ys, J i h tk ys → Sub h h' → tk ≤ tk' → J i h' tk' ys)
    (turn : ∀ (E' : Value → Shared → Prop) C X g i ys m s₁, i < n → B i m → J i g s₁.toks ys → Sub (hideAll s₂.heap (Y ++ cl.map (·.2))) g → LF s₂ X g (compEnvC scope cl C env) m cmc s₁ →
      (∀ b o, b ∉ Y → s₂.heap.get? b = some o → s₁.heap.get? b = some o) → ys.length = i →
      wpAny (model prog w) A (eval elt (compEnvC scope cl C env)) (fun y s₃ => Kp s₁ s₃ ∧ ∀ g', Sub g g' → (∀ b o, s₃.heap.get? b = some o → s₁.heap.get? b = none → g'.get? b = some o) → J (i + 1) g' s₃.toks (ys ++ [y])) E' s₁)
    (hRR : ∀ D C g ys m' s', s₂.heap.get? D = none → s₂.heap.get? C = none → D ≠ C → s'.heap.Ns C m' → LL s'.heap D ys → ys.length = n → Sub g s'.heap → g.get? C = none → g.get? D = none → J n g s'.toks ys → s₂.toks ≤ s'.toks →
      (∃ h tk, s' = { s₂ with heap := h, toks := tk }) → (∀ b o, b ∉ Y → s₂.heap.get? b = some o → s'.heap.get? b = some o) → RR (.ref D) C (.ok .next) s') :
    wpAny (model prog w) A (newList []) (fun acc s₃ => wpAny (model prog w) A (newFunctionEnv scope env.globals cl [] env.qual none .none (some env)) (fun cenv s₄ =>
      codeAny (model prog w) A (.compStart (.ListComp elt [⟨target, iter, [], 0⟩] scope pos) 0 (.ref I) acc { cenv with scope := relabel scope env }) (RR acc cenv.locals) s₄) E s₃) E s₂ := by
  refine wpAny_newObj_type (wpAny_newFunctionEnv hcell (by intro y hy; simp at hy) (fun h₁ hns₁ hsb₁ => ?_) hkind)
  dsimp only at hns₁ hsb₁ ⊢
  generalize hH2 : s₂.heap.push { cls := .type "list", dict := none, data := .seq ([] : List Value).toArray } = H2 at hns₁ hsb₁ ⊢
  have hC : H2.objs.size = s₂.heap.objs.size + 1 := by rw [← hH2, Heap.size_push]
  have hDC : s₂.heap.objs.size ≠ H2.objs.size := by rw [hC]; exact Nat.ne_of_lt (Nat.lt_succ_self _)
  have below : ∀ b, b < s₂.heap.objs.size → b ≠ H2.objs.size ∧ b ≠ s₂.heap.objs.size := fun b hb => ⟨by rw [hC]; exact Nat.ne_of_lt (Nat.lt_succ_of_lt hb), Nat.ne_of_lt hb⟩
  have old : Sub s₂.heap h₁ := fun b o e => hsb₁.extBut b o (below b (Heap.lt_size e)).1 (Heap.get?_push_of_some _ (hH2 ▸ Heap.get?_push_of_some _ e))
  have hacc : LL h₁ s₂.heap.objs.size [] := ⟨_, hsb₁.extBut _ _ hDC (Heap.get?_push_of_some _ (hH2 ▸ Heap.get?_push_size _ rfl))⟩
  have hC2 : s₂.heap.get? H2.objs.size = none := Heap.get?_none_of_le (by rw [hC]; exact Nat.le_succ _)
  have hD2 : s₂.heap.get? s₂.heap.objs.size = none := Heap.get?_none_of_le (Nat.le_refl _)
  have hDf : s₂.heap.objs.size ∉ fp := fun hm => Nat.lt_irrefl _ (hfp _ hm)
  have hCf : H2.objs.size ∉ fp := fun hm => by have := hfp _ hm; rw [hC] at this; exact Nat.lt_irrefl _ (Nat.lt_of_succ_lt this)
  have TC := T _ hCf
  have hst₁ : St 0 h₁ := TC.frame _ _ _ hst fun b _ o e => old b o e
  have loop := comp_loop (pos := pos) (iter := iter) (elt := elt) (RR := RR) J hkind hn hcm hinj hcs TC hst hYf hDC hC2 hD2 hCf hDf old hacc hns₁ h0 hJ (fun E' X => turn E' _ X) (fun g ys m' s' => hRR _ _ g ys m' s' hD2 hC2 hDC)
  exact codeAny_compStart_list' loop (TC.self 0 _ _ _ hst₁ loop)
end
end Mine
namespace Mine
open PySem PySem.W PyProof.Rows

/-- all that a list comprehension's run leans on, once its iterator stands -/
def CompAt (prog : Program) (w : World) (A : Around) (env : Env) (elt target : Expr) (scope : Scope) (cl : List (Str × Addr)) (s s₂ : Shared) (it : Value) (K : Addr → Heap → List Value → Shared → Prop) : Prop :=
  ∃ (I : Addr) (fp Y : List Addr) (n : Nat) (St : Nat → Heap → Prop) (B : Nat → (Str → Option Value) → Prop) (cmc : Str → Option Value) (J : Nat → Heap → Nat → List Value → Prop), it = .ref I ∧ Kp s s₂ ∧ (∀ a ∈ Y, s.heap.get? a = none) ∧ n ≤ sizeLine ∧
    (∀ x c, cl.lookup x = some c → s₂.heap.IsCell c (cmc x)) ∧ (∀ x c y, cl.lookup x = some c → cl.lookup y = some c → x = y) ∧ (∀ c ∈ cl.map (·.2), ∃ x, cl.lookup x = some c) ∧
    (∀ C, C ∉ fp → Turner prog w A (compEnvC scope cl C env) target I fp Y n St B) ∧ St 0 s₂.heap ∧ (∀ b ∈ fp, b < s₂.heap.objs.size) ∧ (∀ b ∈ Y, b ∈ fp) ∧
    J 0 (hideAll s₂.heap (Y ++ cl.map (·.2))) s₂.toks [] ∧ (∀ i h h' tk tk' ys, J i h tk ys → Sub h h' → tk ≤ tk' → J i h' tk' ys) ∧
    (∀ (E' : Value → Shared → Prop) C X g i ys m s₁, i < n → B i m → J i g s₁.toks ys → Sub (hideAll s₂.heap (Y ++ cl.map (·.2))) g → LF s₂ X g (compEnvC scope cl C env) m cmc s₁ →
      (∀ b o, b ∉ Y → s₂.heap.get? b = some o → s₁.heap.get? b = some o) → ys.length = i →
      wpAny (model prog w) A (eval elt (compEnvC scope cl C env)) (fun y s₃ => Kp s₁ s₃ ∧ ∀ g', Sub g g' → (∀ b o, s₃.heap.get? b = some o → s₁.heap.get? b = none → g'.get? b = some o) → J (i + 1) g' s₃.toks (ys ++ [y])) E' s₁) ∧
    (∀ D g ys s', Kp s s' → s.heap.get? D = none → LL s'.heap D ys → ys.length = n → Sub g s'.heap → g.get? D = none → J n g s'.toks ys → K D g ys s')

section
variable {prog : Program} {w : World} {A : Around} {E : Value → Shared → Prop} {s : Shared} {env : Env} {elt target iter : Expr} {scope : Scope} {cl : List (Str × Addr)} {pos : Pos}

theorem comp_val {Q : Value → Shared → Prop} (hclos : closureFor scope env = pure cl) (hcell : ∀ y ∈ scope.names, y.2 ≠ .cell) (hkind : scope.kind = .function)
    (hnames : ∀ y ∈ scope.names, y.2 = .local → scope.names.lookup y.1 = some .local)
    (h : wpAny (model prog w) A (eval iter env) (fun xv s₁ => wpAny (model prog w) A (pyIter xv) (fun it s₂ => CompAt prog w A env elt target scope cl s s₂ it (fun D _ _ s' => Q (.ref D) s')) E s₁) E s)
    (hs : ∀ x, foldedSetIterable iter env x = pure x := by intro _; rfl) :
    wpAny (model prog w) A (eval (.ListComp elt [⟨target, iter, [], 0⟩] scope pos) env) Q E s := by
  rw [eval_ListComp]
  refine wpAny_comprehension_free (use := none) rfl hs hclos hkind hnames (wpAny_mono h (fun xv s₁ h₁ => wpAny_mono h₁ (fun it s₂ h₂ => ?_) fun _ _ e => e) fun _ _ e => e)
  obtain ⟨I, fp, Y, n, St, B, cmc, J, rfl, K₂, hYn, hn, hcm, hinj, hcs, T, hst, hfp, hYf, h0, hJ, turn, fin⟩ := h₂
  refine comp_core (RR := fun acc C => compPost (model prog w) A E none Q acc C) J hcell hkind hn hcm hinj hcs T hst hfp hYf h0 hJ turn ?_
  intro D C g ys m' s' hD hC hDC hns hl hlen hg hgC hgD hj ht hsame hk
  refine ⟨m', hns, fun h' hs' => ?_⟩
  have hCs : s.heap.get? C = none := by
    cases e : s.heap.get? C with
    | none => rfl
    | some o => rw [K₂.sub _ _ e] at hC; cases hC
  have hDs : s.heap.get? D = none := by
    cases e : s.heap.get? D with
    | none => rfl
    | some o => rw [K₂.sub _ _ e] at hD; cases hD
  refine fin D g ys { s' with heap := h' } ?_ hDs (let ⟨q, e⟩ := hl; ⟨q, hs'.extBut _ _ hDC e⟩) hlen (fun b o e => hs'.extBut b o (ne_some hgC e) (hg b o e)) hgD hj
  obtain ⟨⟨hh, tk, e2⟩, ht2, hsub2⟩ := K₂
  obtain ⟨hh', tk', rfl⟩ := hsame
  refine ⟨⟨h', tk', by rw [e2]⟩, Nat.le_trans ht2 ht, fun b o e => hs'.extBut b o (ne_some hCs e) (hk b o (fun hb => ?_) (hsub2 b o e))⟩
  rw [hYn b hb] at e; cases e

theorem comp_set {s₀ : Shared} {X : List Addr} {g₀ : Heap} {m cm : Str → Option Value} {y : Str} {py spos : Pos} {Q : Flow → Shared → Prop} (F : LF s₀ X g₀ env m cm s)
    (hsw : swapsWith (.ListComp elt [⟨target, iter, [], 0⟩] scope pos) (some (.Name y py)) spos.line env = pure true) (hy : env.kindOf y = some .local)
    (hclos : closureFor scope env = pure cl) (hcell : ∀ y ∈ scope.names, y.2 ≠ .cell) (hkind : scope.kind = .function)
    (hnames : ∀ y ∈ scope.names, y.2 = .local → scope.names.lookup y.1 = some .local)
    (h : wpAny (model prog w) A (eval iter env) (fun xv s₁ => wpAny (model prog w) A (pyIter xv) (fun it s₂ => CompAt prog w A env elt target scope cl s s₂ it (fun D _ ys s' =>
      ∀ s'', LF s₀ X g₀ env (upd m y (.ref D)) cm s'' → LL s''.heap D ys → s'.toks ≤ s''.toks → KB env.locals s s'' → Q .next s'')) E s₁) E s)
    (hs : ∀ x, foldedSetIterable iter env x = pure x := by intro _; rfl) :
    wpAny (model prog w) A (exec (.Assign [.Name y py] (.ListComp elt [⟨target, iter, [], 0⟩] scope pos) spos) env) Q E s := by
  rw [exec_Assign_Name_used _ _ _ _ hsw]
  refine wpAny_bind (wpAny_standAt (wpAny_bind ?_))
  show wpAny _ A (do let _ ← comprehension (.ListComp elt [⟨target, iter, [], 0⟩] scope pos) scope env _ (newList []) false (eval iter env) (some (assign (.Name y py) env))) _ _ s
  refine wpAny_bind (wpAny_mono (wpAny_comprehension_free (use := some (assign (.Name y py) env)) (Q := fun _ s' => Q .next s') rfl hs hclos hkind hnames
    (wpAny_mono h (fun xv s₁ h₁ => wpAny_mono h₁ (fun it s₂ h₂ => ?_) fun _ _ e => e) fun _ _ e => e)) (fun _ s' hq => wpAny_pure (wpAny_pure hq)) fun _ _ e => e)
  obtain ⟨I, fp, Y, n, St, B, cmc, J, rfl, K₂, hYn, hn, hcm, hinj, hcs, T, hst, hfp, hYf, h0, hJ, turn, fin⟩ := h₂
  refine comp_core (RR := fun acc C => compPost (model prog w) A E (some (assign (.Name y py) env)) (fun _ s' => Q .next s') acc C) J hcell hkind hn hcm hinj hcs T hst hfp hYf h0 hJ turn ?_
  intro D C g ys m' s' hD hC hDC hns hl hlen hg hgC hgD hj ht hsame hk
  have hCs : s.heap.get? C = none := by
    cases e : s.heap.get? C with
    | none => rfl
    | some o => rw [K₂.sub _ _ e] at hC; cases hC
  have hDs : s.heap.get? D = none := by
    cases e : s.heap.get? D with
    | none => rfl
    | some o => rw [K₂.sub _ _ e] at hD; cases hD
  have K' : Kp s s' := by
    obtain ⟨⟨hh, tk, e2⟩, ht2, hsub2⟩ := K₂
    obtain ⟨hh', tk', rfl⟩ := hsame
    refine ⟨⟨hh', tk', by rw [e2]⟩, Nat.le_trans ht2 ht, fun b o e => hk b o (fun hb => ?_) (hsub2 b o e)⟩
    rw [hYn b hb] at e; cases e
  have hfin := fin D g ys s' K' hDs hl hlen hg hgD hj
  have hLs : ∃ o, s.heap.get? env.locals = some o := let ⟨o, _, _, e, _⟩ := F.ns; ⟨o, e⟩
  obtain ⟨oL, hoL⟩ := hLs
  have hCL : C ≠ env.locals := (ne_some hCs hoL).symm
  have hDL : D ≠ env.locals := (ne_some hDs hoL).symm
  show wpAny _ A (assign (.Name y py) env (.ref D)) _ _ _
  refine (F.kp K').assign hy fun s'' F'' kb ht'' => ?_
  obtain ⟨oC, _, _, hoC, hdC, _⟩ := id hns
  have hnsC : s''.heap.Ns C m' := hns.at' fun o e => kb C o hCL e
  refine ⟨m', hnsC, fun h' hs' => hfin { s'' with heap := h' } ?_ (let ⟨q, e⟩ := hl; ⟨q, hs'.extBut _ _ hDC (kb _ _ hDL e)⟩) ht'' fun b o hb e => hs'.extBut b o (ne_some hCs e) (kb b o hb (K'.sub b o e))⟩
  have hg₀C : g₀.get? C = none := by
    cases e : g₀.get? C with
    | none => rfl
    | some o => rw [F.sub _ _ e] at hCs; cases hCs
  exact { F'' with
    same := by obtain ⟨hh, tk, rfl⟩ := F''.same; exact ⟨h', tk, rfl⟩
    sub := fun b o e => hs'.extBut b o (ne_some hg₀C e) (F''.sub b o e)
    ns := F''.ns.sameBut hs' (Ne.symm hCL)
    cell := fun x c e => (F''.cell x c e).sameBut hs' fun q => by
      obtain ⟨o, ho, hd⟩ := F''.cell x c e
      have h2 := kb C oC hCL hoC
      rw [q] at ho
      rw [ho] at h2; cases h2
      rw [hd] at hdC; cases hdC }
end
end Mine
namespace Mine
open PySem PySem.Sre

section
variable {m : M}
theorem sx_exec (h1 : m.outcome = none) (h2 : m.answer = none) (h3 : m.pc < m.code.size) : m.step = m.exec := by
  unfold M.step
  rw [h1, h2]
  simp [h3]
theorem sx_AT {yes : Bool} (h4 : ops[m.word 0]? = some .AT) (h5 : M.isAt { m with seen := m.seen.add (m.word 0) } (m.word 1) = .ok yes) :
    m.exec = (let m' := { m with seen := (m.seen.add (m.word 0)).add (43 + m.word 1) }; if yes then { m' with pc := m.pc + 2 } else { m' with answer := some false }) := by
  unfold M.exec
  rw [h4]
  dsimp only
  show (match M.isAt { m with seen := m.seen.add (m.word 0) } (m.word 1) with | .error why => _ | .ok yes => _) = _
  rw [h5]
  rfl
theorem sx_LIT (h4 : ops[m.word 0]? = some .LITERAL) :
    m.exec = (let m' := { m with seen := m.seen.add (m.word 0) }; if m.pos < m.lim ∧ m.text.getD m.pos 0 = m.word 1 then { m' with pc := m.pc + 2, pos := m.pos + 1 } else { m' with answer := some false }) := by
  have ha : ∀ c sn, accepts m.code m.pc c sn = .ok (c == m.word 1, sn) := by
    intro c sn
    unfold accepts
    have : ops[m.code.getD m.pc 0]? = some .LITERAL := h4
    rw [this]
    rfl
  have hw : itemWidth m.code m.pc = 2 := by
    unfold itemWidth
    have : ops[m.code.getD m.pc 0]? = some .LITERAL := h4
    rw [this]
  unfold M.exec
  rw [h4]
  dsimp only
  by_cases hp : m.pos < m.lim
  · rw [if_neg (by omega)]
    rw [ha]
    by_cases hc : m.text.getD m.pos 0 = m.word 1
    · simp only [hc, beq_self_eq_true, hp, and_self, if_true, hw]
    · have : (m.text.getD m.pos 0 == m.word 1) = false := by simpa using hc
      rw [this]
      simp only [hc, and_false, if_false]
      rfl
  · rw [if_pos (by omega)]
    simp only [hp, false_and, if_false]
    rfl
theorem sx_SUCC (h4 : ops[m.word 0]? = some .SUCCESS) (h5 : m.wholeText = false) (h6 : m.mustAdvance = false) :
    m.exec = { m with seen := m.seen.add (m.word 0), handed := m.pos, answer := some true } := by
  unfold M.exec
  rw [h4]
  dsimp only
  rw [h5, h6]
  simp only [Bool.false_and, Bool.or_self, Bool.and_false, Bool.false_eq_true, if_false]
  rfl
theorem sx_JUMP (h4 : ops[m.word 0]? = some .JUMP) : m.exec = { m with seen := m.seen.add (m.word 0), pc := m.pc + 1 + m.word 1 } := by
  unfold M.exec
  rw [h4]
  rfl
theorem sx_ans {yes : Bool} {f : Sre.Frame} {r : List Sre.Frame} (h1 : m.outcome = none) (h2 : m.answer = some yes) (h3 : m.frames = f :: r) :
    m.step = M.resume { m with answer := none, frames := r, weight := m.weight - (1 + f.kept.marks.size), pc := f.pc, pos := f.pos, outermost := f.outermost } f yes := by
  unfold M.step
  rw [h1, h2, h3]
  rfl
theorem sx_end {yes : Bool} (h1 : m.outcome = none) (h2 : m.answer = some yes) (h3 : m.frames = []) :
    m.step = { m with outcome := some (if yes then .matched else .failed) } := by
  unfold M.step
  rw [h1, h2, h3]
  rfl
end

/-- so many steps, each of a machine that has not ended -/
inductive Runs : Nat → M → M → Prop
  | nil {m : M} : Runs 0 m m
  | cons {n : Nat} {m m' : M} : m.outcome = none → Runs n m.step m' → Runs (n + 1) m m'
theorem Runs.trans {a b : Nat} {m m' m'' : M} (x : Runs a m m') (y : Runs b m' m'') : Runs (a + b) m m'' := by
  induction x with
  | nil => rw [Nat.zero_add]; exact y
  | cons h _ ih => rw [Nat.add_right_comm]; exact .cons h (ih y)

theorem runFor_of : ∀ {n : Nat} {m m' : M} (k : Nat), Runs n m m' → m'.outcome.isSome = true → n ≤ k → M.runFor k m = m'
  | 0, m, _, 0, .nil, h, _ => rfl
  | 0, m, _, k + 1, .nil, h, _ => by unfold M.runFor; rw [if_pos h]
  | n + 1, m, m', 0, .cons h0 r, h, hk => by omega
  | n + 1, m, m', k + 1, .cons h0 r, h, hk => by
    unfold M.runFor
    rw [if_neg (by rw [h0]; simp)]
    exact runFor_of k r h (by omega)
theorem runFor_part : ∀ {n : Nat} {m m' : M} (k : Nat), Runs n m m' → k ≤ n → Runs (n - k) (M.runFor k m) m'
  | n, m, m', 0, r, _ => by unfold M.runFor; exact r
  | 0, m, m', k + 1, r, h => by omega
  | n + 1, m, m', k + 1, .cons h0 r, h => by
    unfold M.runFor
    rw [if_neg (by rw [h0]; simp), Nat.add_sub_add_right]
    exact runFor_part k r (by omega)

theorem drive_of {A : Around} {Md : Model} {E : Value → Shared → Prop} {s : Shared} {Q : M → Shared → Prop} : ∀ (turns : Nat) {n : Nat} {m m' : M}, Runs n m m' → m'.outcome.isSome = true → n < 4 * turns → Q m' s →
    wpAny Md A (Builtin.Re.reDrive turns m) Q E s
  | 0, n, m, m', r, h, hn, hq => by omega
  | t + 1, n, m, m', r, h, hn, hq => by
    unfold Builtin.Re.reDrive
    dsimp only [Builtin.Re.reTurnSteps]
    by_cases hk : n ≤ 4
    · rw [runFor_of 4 r h hk, if_pos h]
      exact wpAny_pure hq
    · have r' := runFor_part 4 r (by omega)
      cases e : (M.runFor 4 m).outcome.isSome with
      | false =>
        simp only [Bool.false_eq_true, if_false]
        exact wpAny_bind (wpAny_rule (drive_of t r' h (by omega) hq))
      | true =>
        exfalso
        cases q : n - 4 with
        | zero => omega
        | succ k =>
          rw [q] at r'
          cases r' with
          | cons h0 _ => rw [h0] at e; cases e
end Mine
namespace Mine
open PySem PySem.Sre

/-- the first place from s on at which p holds -/
def scan (p : Nat → Bool) : (fuel s : Nat) → Option Nat
  | 0, _ => none
  | n + 1, s => if p s then some s else scan p n (s + 1)

def rc1 : Array Nat := #[14, 4, 0, 1, 1, 6, 1, 16, 46, 1]
def st1 (T : Array Nat) (s : Nat) (first : Bool) (seen : Seen) : M :=
  { code := rc1, text := T, lim := T.size, start := s, lastStart := T.size, pc := 5, pos := s, handed := s, outermost := first, marks := #[],
    frames := [{ wait := .nextStart, pc := 5, pos := s, outermost := first }], weight := 1, seen := seen }

def bol (T : Array Nat) (s : Nat) : Bool := s == 0 || T.getD (s - 1) 0 == 10
def hit1 (T : Array Nat) (s : Nat) : Bool := bol T s && T.getD s 0 == 46

/-- how a search ends -/
def Ends (o : Option Nat) (w : Nat → Nat) (m : M) : Prop := match o with
  | some q => m.outcome = some .matched ∧ m.start = q ∧ m.handed = q + w q
  | none => m.outcome = some .failed

theorem rs_next {m : M} {f : Sre.Frame} (hw : f.wait = .nextStart) : M.resume m f false = if f.pos < m.lastStart then { m with mustAdvance := false }.attemptFrom (f.pos + 1) false else m.say false := by
  obtain ⟨w, pc, pos, o, c, k, l, b⟩ := f
  cases hw
  rfl
theorem rs_yes {m : M} {f : Sre.Frame} (hw : f.wait = .nextStart) : M.resume m f true = m.say true := by
  obtain ⟨w, pc, pos, o, c, k, l, b⟩ := f
  cases hw
  rfl

theorem st1_no {T : Array Nat} {s : Nat} {first : Bool} {seen : Seen} (pc pos : Nat) :
    M.step { st1 T s first seen with pc := pc, pos := pos, answer := some false } = if s < T.size then st1 T (s + 1) false seen else { st1 T s first seen with answer := some false, frames := [], weight := 0 } := by
  rw [sx_ans (m := { st1 T s first seen with pc := pc, pos := pos, answer := some false }) (yes := false) rfl rfl rfl, rs_next rfl]
  by_cases h : s < T.size
  · rw [if_pos h]
    exact (if_pos h).trans rfl
  · rw [if_neg h]
    exact (if_neg h).trans rfl

theorem pat1_turn (T : Array Nat) (s : Nat) (first : Bool) (seen : Seen) (hs : s ≤ T.size) :
    (s < T.size ∧ hit1 T s = true ∧ ∃ m', Runs 5 (st1 T s first seen) m' ∧ Ends (some s) (fun _ => 1) m') ∨
    (s < T.size ∧ hit1 T s = false ∧ ∃ n seen', n ≤ 3 ∧ Runs n (st1 T s first seen) (st1 T (s + 1) false seen')) ∨
    (s = T.size ∧ ∃ n m', n ≤ 4 ∧ Runs n (st1 T s first seen) m' ∧ Ends none (fun _ => 1) m') := by
  have e1 := (sx_exec (m := st1 T s first seen) rfl rfl (by show 5 < 10; decide)).trans (sx_AT (yes := bol T s) rfl rfl)
  cases hb : bol T s with
  | false =>
    rw [hb] at e1
    replace e1 : (st1 T s first seen).step = { st1 T s first ((seen.add 6).add 44) with answer := some false } := e1
    have e2 := st1_no (T := T) (s := s) (first := first) (seen := (seen.add 6).add 44) 5 s
    by_cases h : s < T.size
    · rw [if_pos h] at e2
      refine .inr (.inl ⟨h, by simp [hit1, hb], 2, (seen.add 6).add 44, by omega, .cons rfl ?_⟩)
      rw [e1]
      refine .cons rfl ?_
      rw [show M.step { st1 T s first ((seen.add 6).add 44) with answer := some false } = _ from e2]
      exact .nil
    · rw [if_neg h] at e2
      refine .inr (.inr ⟨by omega, 3, ({ st1 T s first ((seen.add 6).add 44) with answer := some false, frames := [], weight := 0, outcome := some .failed }), by omega, .cons rfl ?_, ?_⟩)
      · rw [e1]
        refine .cons rfl ?_
        rw [show M.step { st1 T s first ((seen.add 6).add 44) with answer := some false } = _ from e2]
        refine .cons rfl ?_
        rw [sx_end (yes := false) rfl rfl rfl]
        exact .nil
      · rfl
  | true =>
    rw [hb] at e1
    replace e1 : (st1 T s first seen).step = { st1 T s first ((seen.add 6).add 44) with pc := 7 } := e1
    have e2 := (sx_exec (m := { st1 T s first ((seen.add 6).add 44) with pc := 7 }) rfl rfl (by show 7 < 10; decide)).trans (sx_LIT rfl)
    by_cases h : s < T.size ∧ T.getD s 0 = 46
    · have e2' : M.step { st1 T s first ((seen.add 6).add 44) with pc := 7 } = { st1 T s first (((seen.add 6).add 44).add 16) with pc := 9, pos := s + 1 } := e2.trans (if_pos h)
      have e3 : M.step { st1 T s first (((seen.add 6).add 44).add 16) with pc := 9, pos := s + 1 } = _ := (sx_exec rfl rfl (by show 9 < 10; decide)).trans (sx_SUCC rfl rfl rfl)
      refine .inl ⟨h.1, by unfold hit1; rw [hb, h.2]; rfl, ({ st1 T s first ((((seen.add 6).add 44).add 16).add 1) with handed := s + 1, answer := some true, frames := [], weight := 0, outcome := some .matched }), .cons rfl ?_, ?_⟩
      · rw [e1]
        refine .cons rfl ?_
        rw [e2']
        refine .cons rfl ?_
        rw [e3]
        refine .cons rfl ?_
        rw [sx_ans (yes := true) rfl rfl rfl, rs_yes rfl]
        refine .cons rfl ?_
        rw [sx_end (yes := true) rfl rfl rfl]
        exact .nil
      · exact ⟨rfl, rfl, rfl⟩
    · have e2' : M.step { st1 T s first ((seen.add 6).add 44) with pc := 7 } = { st1 T s first (((seen.add 6).add 44).add 16) with pc := 7, answer := some false } := e2.trans (if_neg h)
      have e3 := st1_no (T := T) (s := s) (first := first) (seen := ((seen.add 6).add 44).add 16) 7 s
      by_cases hs' : s < T.size
      · rw [if_pos hs'] at e3
        have hn : T.getD s 0 ≠ 46 := fun q => h ⟨hs', q⟩
        refine .inr (.inl ⟨hs', by unfold hit1; rw [beq_false_of_ne hn, Bool.and_false], 3, ((seen.add 6).add 44).add 16, by omega, .cons rfl ?_⟩)
        rw [e1]
        refine .cons rfl ?_
        rw [e2']
        refine .cons rfl ?_
        rw [show M.step { st1 T s first (((seen.add 6).add 44).add 16) with pc := 7, answer := some false } = _ from e3]
        exact .nil
      · rw [if_neg hs'] at e3
        refine .inr (.inr ⟨by omega, 4, ({ st1 T s first (((seen.add 6).add 44).add 16) with answer := some false, frames := [], weight := 0, outcome := some .failed }), by omega, .cons rfl ?_, ?_⟩)
        · rw [e1]
          refine .cons rfl ?_
          rw [e2']
          refine .cons rfl ?_
          rw [show M.step { st1 T s first (((seen.add 6).add 44).add 16) with pc := 7, answer := some false } = _ from e3]
          refine .cons rfl ?_
          rw [sx_end (yes := false) rfl rfl rfl]
          exact .nil
        · rfl

theorem pat1_search (T : Array Nat) : ∀ (k s : Nat) (first : Bool) (seen : Seen), s + k = T.size → ∃ n m', n ≤ 3 * k + 5 ∧ Runs n (st1 T s first seen) m' ∧ Ends (scan (hit1 T) k s) (fun _ => 1) m' := by
  intro k
  induction k with
  | zero =>
    intro s first seen hk
    rcases pat1_turn T s first seen (by omega) with ⟨h, _⟩ | ⟨h, _⟩ | ⟨_, n, m', hn, hr, he⟩
    · omega
    · omega
    · exact ⟨n, m', by omega, hr, he⟩
  | succ k ih =>
    intro s first seen hk
    rcases pat1_turn T s first seen (by omega) with ⟨h, hh, m', hr, he⟩ | ⟨h, hh, n, seen', hn, hr⟩ | ⟨h, _⟩
    · exact ⟨5, m', by omega, hr, by unfold scan; rw [if_pos hh]; exact he⟩
    · obtain ⟨n', m', hn', hr', he'⟩ := ih (s + 1) false seen' (by omega)
      exact ⟨n + n', m', by omega, hr.trans hr', by unfold scan; rw [if_neg (by rw [hh]; simp)]; exact he'⟩
    · omega

theorem search1 (T : Array Nat) (s : Nat) (hs : s ≤ T.size) : ∃ n m', n ≤ 3 * T.size + 6 ∧ Runs n (forSearch rc1 T 0 s T.size false) m' ∧ Ends (scan (hit1 T) (T.size - s) s) (fun _ => 1) m' := by
  by_cases h : T.size - s < 1
  · have e : forSearch rc1 T 0 s T.size false = M.say { code := rc1, text := T, lim := T.size, start := s, pc := 5, pos := s, handed := s, marks := Array.replicate (2 * 0) none, mustAdvance := false, seen := ({} : Seen).add 14 } false := by
      unfold forSearch
      exact if_pos (by rw [Bool.or_eq_true]; exact .inr (decide_eq_true h))
    refine ⟨1, ({ code := rc1, text := T, lim := T.size, start := s, pc := 5, pos := s, handed := s, marks := Array.replicate (2 * 0) none, mustAdvance := false, seen := ({} : Seen).add 14, answer := some false, outcome := some .failed }), by omega, .cons (by rw [e]; rfl) ?_, ?_⟩
    · rw [e, sx_end (yes := false) rfl rfl rfl]
      exact .nil
    · rw [show T.size - s = 0 by omega]
      rfl
  · have e : forSearch rc1 T 0 s T.size false = st1 T s true (({} : Seen).add 14) := by
      unfold forSearch
      exact (if_neg (by rw [Bool.or_eq_true]; rintro (q | q) <;> first | exact h (of_decide_eq_true q) | exact absurd (of_decide_eq_true q) (by omega))).trans rfl
    obtain ⟨n, m', hn, hr, he⟩ := pat1_search T (T.size - s) s true (({} : Seen).add 14) (by omega)
    exact ⟨n, m', by omega, by rw [e]; exact hr, he⟩
end Mine
namespace Mine
open PySem PySem.Sre

def rc2 : Array Nat := #[14,9,4,1,2,16,10,16,13,0,7,7,16,13,16,10,15,18,5,16,10,15,13,11,16,13,5,5,0,16,10,1,15,2,0,1]
def m2 (T : Array Nat) (s pc pos hd : Nat) (out : Bool) (fr : List Sre.Frame) (wt : Nat) (ans : Option Bool) (seen : Seen) : M :=
  { code := rc2, text := T, lim := T.size, start := s, lastStart := T.size, pc := pc, pos := pos, handed := hd, outermost := out, marks := #[],
    frames := fr, weight := wt, answer := ans, seen := seen }
def fN (s : Nat) (out : Bool) : Sre.Frame := { wait := .nextStart, pc := 10, pos := s, outermost := out }
def fB (alt s : Nat) (out : Bool) : Sre.Frame := { wait := .nextBranch, pc := alt, pos := s, outermost := out }
def fL (s : Nat) (out : Bool) : Sre.Frame := { wait := .lookNot, pc := 26, pos := s, outermost := out }

def Goes (n : Nat) (a b : Seen → M) : Prop := ∀ sn, ∃ sn', Runs n (a sn) (b sn')
theorem Goes.trans {a b : Nat} {x y z : Seen → M} (h : Goes a x y) (k : Goes b y z) : Goes (a + b) x z := fun sn => by
  obtain ⟨s1, h1⟩ := h sn
  obtain ⟨s2, h2⟩ := k s1
  exact ⟨s2, h1.trans h2⟩
theorem goes1 {a b : Seen → M} (h : ∀ sn, (a sn).outcome = none) (k : ∀ sn, ∃ sn', (a sn).step = b sn') : Goes 1 a b := fun sn => by
  obtain ⟨s2, h2⟩ := k sn
  exact ⟨s2, .cons (h sn) (h2 ▸ .nil)⟩

section
variable {T : Array Nat} {s pc pos hd wt : Nat} {out : Bool} {fr : List Sre.Frame}
theorem g_lit (c : Nat) (h1 : pc < rc2.size) (h2 : ops[rc2.getD pc 0]? = some .LITERAL) (h3 : rc2.getD (pc + 1) 0 = c) (h : pos < T.size ∧ T.getD pos 0 = c) :
    Goes 1 (m2 T s pc pos hd out fr wt none) (m2 T s (pc + 2) (pos + 1) hd out fr wt none) := by
  subst h3
  exact goes1 (fun _ => rfl) fun sn => ⟨_, (sx_exec rfl rfl h1).trans ((sx_LIT (m := m2 T s pc pos hd out fr wt none sn) h2).trans ((if_pos h).trans rfl))⟩
theorem g_litN (c : Nat) (h1 : pc < rc2.size) (h2 : ops[rc2.getD pc 0]? = some .LITERAL) (h3 : rc2.getD (pc + 1) 0 = c) (h : ¬(pos < T.size ∧ T.getD pos 0 = c)) :
    Goes 1 (m2 T s pc pos hd out fr wt none) (m2 T s pc pos hd out fr wt (some false)) := by
  subst h3
  exact goes1 (fun _ => rfl) fun sn => ⟨_, (sx_exec rfl rfl h1).trans ((sx_LIT (m := m2 T s pc pos hd out fr wt none sn) h2).trans ((if_neg h).trans rfl))⟩
theorem g_jump (h1 : pc < rc2.size) (h2 : ops[rc2.getD pc 0]? = some .JUMP) (h3 : pc + 1 + rc2.getD (pc + 1) 0 = 35) :
    Goes 1 (m2 T s pc pos hd out fr wt none) (m2 T s 35 pos hd out fr wt none) := by
  refine goes1 (fun _ => rfl) fun sn => ⟨sn.add (rc2.getD pc 0), (sx_exec rfl rfl h1).trans ((sx_JUMP (m := m2 T s pc pos hd out fr wt none sn) h2).trans ?_)⟩
  rw [← h3]
  rfl
theorem g_succ : Goes 1 (m2 T s 35 pos hd out fr wt none) (m2 T s 35 pos pos out fr wt (some true)) :=
  goes1 (fun _ => rfl) fun sn => ⟨_, (sx_exec rfl rfl (by show 35 < 36; decide)).trans ((sx_SUCC rfl rfl rfl).trans rfl)⟩
theorem g_branch : Goes 1 (m2 T s 10 s hd out fr 1 none) (m2 T s 12 s s out (fB 11 s out :: fr) 2 none) :=
  goes1 (fun _ => rfl) fun sn => ⟨sn.add 7, (sx_exec rfl rfl (by show 10 < 36; decide)).trans rfl⟩
theorem g_next1 {o' : Bool} : Goes 1 (m2 T s pc pos hd o' (fB 11 s out :: fr) 2 (some false)) (m2 T s 19 s s out (fB 18 s out :: fr) 2 none) :=
  goes1 (fun _ => rfl) fun sn => ⟨sn, (sx_ans rfl rfl rfl).trans rfl⟩
theorem g_next2 {o' : Bool} : Goes 1 (m2 T s pc pos hd o' (fB 18 s out :: fr) 2 (some false)) (m2 T s 24 s s out (fB 23 s out :: fr) 2 none) :=
  goes1 (fun _ => rfl) fun sn => ⟨sn, (sx_ans rfl rfl rfl).trans rfl⟩
theorem g_not : Goes 1 (m2 T s 26 pos hd out fr 2 none) (m2 T s 29 pos pos false (fL pos out :: fr) 3 none) :=
  goes1 (fun _ => rfl) fun sn => ⟨sn.add 5, (sx_exec rfl rfl (by show 26 < 36; decide)).trans rfl⟩
theorem g_look {o' : Bool} {p : Nat} : Goes 1 (m2 T s pc pos hd o' (fL p out :: fr) 3 (some false)) (m2 T s 32 p hd out fr 2 none) :=
  goes1 (fun _ => rfl) fun sn => ⟨sn, (sx_ans rfl rfl rfl).trans rfl⟩
theorem g_yesB {o' : Bool} {alt : Nat} : Goes 1 (m2 T s pc pos hd o' (fB alt s out :: fr) 2 (some true)) (m2 T s alt s hd out fr 1 (some true)) :=
  goes1 (fun _ => rfl) fun sn => ⟨sn, (sx_ans rfl rfl rfl).trans rfl⟩
theorem g_yesN {o' : Bool} : Goes 1 (m2 T s pc pos hd o' [fN s out] 1 (some true)) (m2 T s 10 s hd out [] 0 (some true)) :=
  goes1 (fun _ => rfl) fun sn => ⟨sn, (sx_ans rfl rfl rfl).trans rfl⟩
theorem g_end : Goes 1 (m2 T s pc pos hd out [] wt (some true)) (fun sn => { m2 T s pc pos hd out [] wt (some true) sn with outcome := some .matched }) :=
  goes1 (fun _ => rfl) fun sn => ⟨sn, (sx_end rfl rfl rfl).trans rfl⟩
end

def crlf (T : Array Nat) (s : Nat) : Bool := T.getD s 0 == 13 && T.getD (s + 1) 0 == 10
def hit2 (T : Array Nat) (s : Nat) : Bool := T.getD s 0 == 10 || T.getD s 0 == 13
def wid2 (T : Array Nat) (s : Nat) : Nat := if crlf T s then 2 else 1

theorem getD_lt {T : Array Nat} {i : Nat} (h : T.getD i 0 ≠ 0) : i < T.size := by
  rcases Nat.lt_or_ge i T.size with q | q
  · exact q
  · exact absurd (by rw [Array.getD_eq_getD_getElem?, Array.getElem?_eq_none q]; rfl) h

theorem pat2_from (T : Array Nat) (s : Nat) (first : Bool) (hs : s < T.size) (hh : hit2 T s = true) (sn : Seen) :
    ∃ n m', n ≤ 15 ∧ Runs n (m2 T s 10 s s first [fN s first] 1 none sn) m' ∧ Ends (some s) (wid2 T) m' := by
  have tail : ∀ {pc pos hd : Nat} {out : Bool} {alt : Nat}, Goes 4 (m2 T s 35 pos hd first [fB alt s first, fN s first] 2 none) (fun sn => { m2 T s 10 s pos first [] 0 (some true) sn with outcome := some .matched }) := by
    intro pc pos hd out alt
    exact g_succ.trans (g_yesB.trans (g_yesN.trans g_end))
  by_cases h13 : T.getD s 0 = 13
  · by_cases h10 : T.getD (s + 1) 0 = 10
    · have hw : wid2 T s = 2 := by simp only [wid2, crlf, h13, h10]; rfl
      have lt : s + 1 < T.size := getD_lt (by rw [h10]; decide)
      obtain ⟨sn', r⟩ := (g_branch.trans ((g_lit 13 (by decide) rfl rfl ⟨hs, h13⟩).trans ((g_lit 10 (by decide) rfl rfl ⟨lt, h10⟩).trans ((g_jump (pc := 16) (by decide) rfl rfl).trans (tail (pc := 0) (out := false)))))) sn
      exact ⟨_, _, by decide, r, rfl, rfl, by rw [hw]; rfl⟩
    · have hw : wid2 T s = 1 := by unfold wid2 crlf; rw [beq_false_of_ne h10, Bool.and_false]; rfl
      have n10 : ¬(s + 1 < T.size ∧ T.getD (s + 1) 0 = 10) := fun q => h10 q.2
      have n10' : ¬(s < T.size ∧ T.getD s 0 = 10) := fun q => by rw [h13] at q; exact absurd q.2 (by decide)
      obtain ⟨sn', r⟩ := (g_branch.trans ((g_lit 13 (by decide) rfl rfl ⟨hs, h13⟩).trans ((g_litN 10 (by decide) rfl rfl n10).trans (g_next1.trans ((g_litN 10 (by decide) rfl rfl n10').trans (g_next2.trans
        ((g_lit 13 (by decide) rfl rfl ⟨hs, h13⟩).trans (g_not.trans ((g_litN 10 (by decide) rfl rfl n10).trans (g_look.trans ((g_jump (pc := 32) (by decide) rfl rfl).trans (tail (pc := 0) (out := false))))))))))))) sn
      exact ⟨_, _, by decide, r, rfl, rfl, by rw [hw]; rfl⟩
  · have h10 : T.getD s 0 = 10 := by
      unfold hit2 at hh
      rw [beq_false_of_ne h13, Bool.or_false] at hh
      exact eq_of_beq hh
    have hw : wid2 T s = 1 := by unfold wid2 crlf; rw [beq_false_of_ne h13, Bool.false_and]; rfl
    obtain ⟨sn', r⟩ := (g_branch.trans ((g_litN 13 (by decide) rfl rfl (fun q => h13 q.2)).trans (g_next1.trans ((g_lit 10 (by decide) rfl rfl ⟨hs, h10⟩).trans ((g_jump (pc := 21) (by decide) rfl rfl).trans (tail (pc := 0) (out := false))))))) sn
    exact ⟨_, _, by decide, r, rfl, rfl, by rw [hw]; rfl⟩

theorem inSet2 (c : Nat) (sn : Seen) : ∃ sn', inSet rc2 c rc2.size 5 true sn = .ok (c == 10 || c == 13, sn') := by
  have e1 : inSet rc2 c rc2.size 5 true sn = if c == 10 then .ok (true, sn.add 16) else inSet rc2 c 35 7 true (sn.add 16) := rfl
  have e2 : ∀ sn, inSet rc2 c 35 7 true sn = if c == 13 then .ok (true, sn.add 16) else inSet rc2 c 34 9 true (sn.add 16) := fun _ => rfl
  have e3 : ∀ sn, inSet rc2 c 34 9 true sn = .ok (false, sn.add 0) := fun _ => rfl
  rw [e1, e2, e3]
  cases c == 10 with
  | true => exact ⟨_, rfl⟩
  | false => cases c == 13 with
    | true => exact ⟨_, rfl⟩
    | false => exact ⟨_, rfl⟩

theorem admitted2 (m : M) (hc : m.code = rc2) (hl : m.lim = m.text.size) : ∀ (k s : Nat) (sn : Seen), s + k = m.text.size → ∃ sn', M.admitted m (k + 1) s sn = .ok (scan (hit2 m.text) k s, sn') := by
  intro k
  induction k with
  | zero =>
    intro s sn h
    refine ⟨sn, ?_⟩
    unfold M.admitted
    rw [if_pos (by omega)]
    rfl
  | succ k ih =>
    intro s sn h
    unfold M.admitted
    rw [if_neg (by omega), hc]
    obtain ⟨sn', e⟩ := inSet2 (m.text.getD s 0) sn
    rw [e]
    cases q : (m.text.getD s 0 == 10 || m.text.getD s 0 == 13) with
    | true => exact ⟨sn', by unfold scan; rw [show hit2 m.text s = true from q, if_pos rfl]⟩
    | false =>
      obtain ⟨sn'', e'⟩ := ih (s + 1) sn' (by omega)
      exact ⟨sn'', by unfold scan; rw [show hit2 m.text s = false from q]; exact e'⟩

theorem scan_some {p : Nat → Bool} : ∀ {k s q : Nat}, scan p k s = some q → s ≤ q ∧ q < s + k ∧ p q = true ∧ ∀ i, s ≤ i → i < q → p i = false
  | 0, s, q, h => by cases h
  | k + 1, s, q, h => by
    unfold scan at h
    cases e : p s with
    | true =>
      rw [e, if_pos rfl] at h
      cases h
      exact ⟨Nat.le_refl _, by omega, e, fun i _ _ => by omega⟩
    | false =>
      rw [e, if_neg (by simp)] at h
      obtain ⟨a, b, c, d⟩ := scan_some h
      refine ⟨by omega, by omega, c, fun i h1 h2 => ?_⟩
      rcases Nat.lt_or_ge s i with q' | q'
      · exact d i q' h2
      · rw [show i = s by omega]; exact e
theorem scan_none {p : Nat → Bool} : ∀ {k s : Nat}, scan p k s = none → ∀ i, s ≤ i → i < s + k → p i = false
  | 0, s, h, i, h1, h2 => by omega
  | k + 1, s, h, i, h1, h2 => by
    unfold scan at h
    cases e : p s with
    | true => rw [e, if_pos rfl] at h; cases h
    | false =>
      rw [e, if_neg (by simp)] at h
      rcases Nat.lt_or_ge s i with q' | q'
      · exact scan_none h i q' (by omega)
      · rw [show i = s by omega]; exact e

theorem search2 (T : Array Nat) (s : Nat) (hs : s ≤ T.size) : ∃ n m', n ≤ 16 ∧ Runs n (forSearch rc2 T 0 s T.size false) m' ∧ Ends (scan (hit2 T) (T.size - s) s) (wid2 T) m' := by
  by_cases h : T.size - s < 1
  · have e : forSearch rc2 T 0 s T.size false = M.say { code := rc2, text := T, lim := T.size, start := s, pc := 10, pos := s, handed := s, marks := Array.replicate (2 * 0) none, mustAdvance := false, seen := ({} : Seen).add 14 } false := by
      unfold forSearch
      exact if_pos (by rw [Bool.or_eq_true]; exact .inr (decide_eq_true h))
    refine ⟨1, ({ code := rc2, text := T, lim := T.size, start := s, pc := 10, pos := s, handed := s, marks := Array.replicate (2 * 0) none, mustAdvance := false, seen := ({} : Seen).add 14, answer := some false, outcome := some .failed }), by omega, .cons (by rw [e]; rfl) ?_, ?_⟩
    · rw [e, sx_end (yes := false) rfl rfl rfl]
      exact .nil
    · rw [show T.size - s = 0 by omega]
      rfl
  · let m0 : M := { code := rc2, text := T, lim := T.size, start := s, lastStart := T.size, pc := 10, pos := s, handed := s, marks := #[], seen := ({} : Seen).add 14 }
    have e : forSearch rc2 T 0 s T.size false = m0.attemptFrom s true := by
      unfold forSearch
      exact (if_neg (by rw [Bool.or_eq_true]; rintro (q | q) <;> first | exact h (of_decide_eq_true q) | exact absurd (of_decide_eq_true q) (by omega))).trans rfl
    obtain ⟨sn', ea⟩ := admitted2 m0 rfl rfl (T.size - s) s (({} : Seen).add 14) (by show s + (T.size - s) = T.size; omega)
    have ef : m0.attemptFrom s true = match M.admitted m0 (T.size + 1 - s) s (({} : Seen).add 14) with
      | .ok (some s, seen) => M.attemptAt { m0 with mustAdvance := false, seen := seen } s true
      | .ok (none, seen) => M.say { m0 with seen := seen } false
      | .error why => M.stick m0 why := rfl
    rw [show T.size + 1 - s = T.size - s + 1 by omega, ea] at ef
    rw [e, ef]
    cases q : scan (hit2 m0.text) (T.size - s) s with
    | none =>
      refine ⟨1, ({ m0 with seen := sn', answer := some false, outcome := some .failed }), by omega, .cons rfl ?_, rfl⟩
      rw [show M.step _ = _ from sx_end (m := M.say { m0 with seen := sn' } false) (yes := false) rfl rfl rfl]
      exact .nil
    | some p =>
      obtain ⟨_, b, c, _⟩ := scan_some q
      obtain ⟨n, m', hn, hr, he⟩ := pat2_from T p true (by omega) c sn'
      exact ⟨n, m', by omega, hr, he⟩
end Mine
namespace Mine
open PySem PySem.Sre PySem.W PyProof.Rows PySem.Builtin PySem.Builtin.Re

theorem pat_attrs : PlainAttrs "re.Pattern" :=
  ⟨⟨"object.__getattribute__", by rw [typeLookup_type, builtinLookup_eq_fast]; kernel_rfl, by decide +kernel⟩, by rw [typeLookup_type, builtinLookup_eq_fast]; kernel_rfl⟩
theorem pat_sub : Slot "re.Pattern" "sub" "re.Pattern.sub" :=
  .of (owner := "re.Pattern") (n := "sub") (by rw [typeLookup_type, builtinLookup_eq_fast]; kernel_rfl) (by decide +kernel) (by decide +kernel) (by decide +kernel)
    (by first | exact .inl (by decide +kernel) | exact .inr (by decide +kernel)) (by rw [isSubtype_type]; kernel_rfl)
theorem pat_type : typeOf (.builtin "re.Pattern.sub") = pure (.type "method_descriptor") := by show builtinType _ = _; rw [builtinType_eq_fast]; kernel_rfl
theorem pat_entry : entryFor table "re.Pattern.sub" = some Builtin.«re.Pattern.sub» := entryFor_of_tree (by kernel_rfl)
theorem pat_entryL : entryFor table "re.Pattern.sub.loop" = some Builtin.«re.Pattern.sub.loop» := entryFor_of_tree (by kernel_rfl)
theorem pat_owner : Manifest.owners.lookup (String.ofList ['n', 'r', 'e', 't', 't', 'a', 'P', '.', 'e', 'r'].reverse) = some Manifest.sig_re_Pattern := by kernel_rfl
theorem pat_args (a b c : Value) : argsOk "re.Pattern.sub" ⟨[a, b, c], []⟩ := by
  unfold argsOk; rw [signature?_of (id := "re.Pattern.sub") (n := ['b', 'u', 's']) (o := ['n', 'r', 'e', 't', 't', 'a', 'P', '.', 'e', 'r']) (by kernel_rfl) pat_owner]; kernel_rfl
theorem pat_named (a b : Value) : reNamed "re.Pattern.sub" "sub" ["repl", "string", "count"] 2 [a, b] [] = pure [some a, some b, none] := by rfl
theorem str_nocall : typeLookup (.type "str") "__call__" = pure none := by rw [typeLookup_type, builtinLookup_eq_fast]; kernel_rfl

/-- a pattern object whose code is rc -/
structure PatAt (h : Heap) (P : Addr) (rc : Array Nat) : Prop where
  ex : ∃ o fs C oc ws n, h.get? P = some o ∧ o.cls = .type "re.Pattern" ∧ o.dict = none ∧ o.data = .fields fs ∧ fs.getD 5 .none = .ref C ∧ reRawNat (fs.getD 2 .none) = 0 ∧ reRawNat (fs.getD 6 .none) = 0 ∧
    h.get? C = some oc ∧ oc.data = .seq ws n ∧ (ws.map reRawOf).map (·.toNat) = rc
theorem PatAt.up {h h' : Heap} {P : Addr} {rc : Array Nat} (x : PatAt h P rc) (k : Sub h h') : PatAt h' P rc := by
  obtain ⟨o, fs, C, oc, ws, n, a, b⟩ := x.ex
  exact ⟨o, fs, C, oc, ws, n, k _ _ a, b.1, b.2.1, b.2.2.1, b.2.2.2.1, b.2.2.2.2.1, b.2.2.2.2.2.1, k _ _ b.2.2.2.2.2.2.1, b.2.2.2.2.2.2.2⟩
theorem Glb.p1 {h : Heap} (G : Glb h) : PatAt h 78 rc1 := by
  obtain ⟨o, t, n, a, b, c, d⟩ := G.pat1
  obtain ⟨oc, n', e, f⟩ := G.code1
  exact ⟨o, _, 77, oc, _, n', a, b, c, d, rfl, rfl, rfl, e, f, by decide +kernel⟩
theorem Glb.p2 {h : Heap} (G : Glb h) : PatAt h 83 rc2 := by
  obtain ⟨o, t, n, a, b, c, d⟩ := G.pat2
  obtain ⟨oc, n', e, f⟩ := G.code2
  exact ⟨o, _, 82, oc, _, n', a, b, c, d, rfl, rfl, rfl, e, f, by decide +kernel⟩

section
variable {prog : Program} {w : World} {A : Around} {E : Value → Shared → Prop} {s : Shared}

theorem whole {P : Addr} {rc : Array Nat} {x : Str} {t : Tok} {Q : ReTarget → Shared → Prop} (H : PatAt s.heap P rc)
    (h : Q { pattern := .ref P, string := .str x t, code := rc, text := x.cps, kind := 0, groups := 0, pos := 0, lim := x.cps.size } s) : wpAny (model prog w) A (reWholeTarget (.ref P) (.str x t)) Q E s := by
  obtain ⟨o, fs, C, oc, ws, n, a, b, c, d, e, f, g, i, j, k⟩ := H.ex
  unfold reWholeTarget
  refine wpAny_bind (wpAny_fieldsOf a d ?_)
  have e1 : reTextOf (.str x t) = pure (x.cps, 0) := rfl
  have e2 : reNoCollectionInside (.str x t) 0 = pure () := rfl
  refine wpAny_bind (wpAny_of_eq e1 ?_)
  dsimp only
  rw [g, f]
  simp only [Nat.reduceBEq, Bool.false_and, Bool.and_false, Bool.false_eq_true, if_false, beq_self_eq_true, Bool.true_and, Nat.reduceEqDiff]
  refine wpAny_bind (wpAny_of_eq e2 ?_)
  refine wpAny_bind ?_
  rw [e]
  unfold reRawItems
  refine wpAny_bind (wpAny_seqItems i j (wpAny_pure ?_))
  refine wpAny_pure ?_
  rw [← k] at h
  exact h
end
end Mine
namespace Mine
open PySem PySem.Sre PySem.W PyProof.Rows PySem.Builtin PySem.Builtin.Re

section
variable {prog : Program} {w : World} {A : Around} {E : Value → Shared → Prop} {s : Shared}

theorem run_end {m m' : M} {n : Nat} {o : Option Nat} {wd : Nat → Nat} {Q : Option M → Shared → Prop} (r : Runs n m m') (hn : n < 4 * 2 ^ 64) (he : Ends o wd m')
    (h1 : ∀ q, o = some q → m'.start = q → m'.handed = q + wd q → Q (some m') s) (h2 : o = none → Q none s) : wpAny (model prog w) A (reRunToEnd m) Q E s := by
  have hsome : m'.outcome.isSome = true := by
    unfold Ends at he
    cases o with
    | none => rw [he]; rfl
    | some q => rw [he.1]; rfl
  unfold reRunToEnd
  refine wpAny_bind (drive_of _ r hsome hn ?_)
  refine wpAny_bind (wpAny_forIn_list _ (fun _ _ s' => s' = s) _ (fun x rest b s' hs => ?_) (fun b s' hs => ?_) _ _ rfl)
  · subst hs
    split
    · exact wpAny_bind (wpAny_rule (wpAny_pure rfl))
    · exact wpAny_pure rfl
  · subst hs
    unfold Ends at he
    cases o with
    | none => rw [he]; exact wpAny_pure (h2 rfl)
    | some q => obtain ⟨a, b, c⟩ := he; rw [a]; exact wpAny_pure (h1 q rfl b c)

/-- what is asked of a pattern's search -/
def Searches (rc T : Array Nat) (hit : Nat → Bool) (wd : Nat → Nat) : Prop :=
  ∀ s, s ≤ T.size → ∃ n m', n ≤ 3 * T.size + 16 ∧ Runs n (forSearch rc T 0 s T.size false) m' ∧ Ends (scan hit (T.size - s) s) wd m'

/-- the pieces say what rest says -/
structure Rests (T : Array Nat) (hit : Nat → Bool) (wd : Nat → Nat) (repl : List Nat) (rest : Nat → List Nat) : Prop where
  some : ∀ d q, d ≤ T.size → scan hit (T.size - d) d = some q → 1 ≤ wd q ∧ q + wd q ≤ T.size ∧ rest d = (T.extract d q).toList ++ repl ++ rest (q + wd q)
  none : ∀ d, d ≤ T.size → scan hit (T.size - d) d = Option.none → rest d = (T.extract d T.size).toList

theorem strsAre_snoc {vs : List Value} {ys : List Str} (h : StrsAre vs ys) (y : Str) (t : Tok) : StrsAre (vs ++ [.str y t]) (ys ++ [y]) := by
  induction h with
  | nil => exact .cons y t .nil
  | cons z u _ ih => exact .cons z u ih

def flat (ys : List Str) : List Nat := (ys.map (·.cps.toList)).flatten
theorem flat_snoc (ys : List Str) (y : Str) : flat (ys ++ [y]) = flat ys ++ y.cps.toList := by simp [flat]
theorem join_flat (x : Str) (hx : x.cps = #[]) : ∀ ys : List Str, (Str.join x ys).cps.toList = flat ys
  | [] => rfl
  | [y] => by simp [Str.join, flat]
  | y :: z :: r => by
    show ((y ++ x ++ Str.join x (z :: r)).cps).toList = _
    have e : (y ++ x ++ Str.join x (z :: r)).cps = y.cps ++ x.cps ++ (Str.join x (z :: r)).cps := rfl
    rw [e, hx, Array.append_empty, Array.toList_append, join_flat x hx (z :: r)]
    simp [flat]
theorem sum_flat : ∀ ys : List Str, (ys.map (·.length)).sum = (flat ys).length
  | [] => rfl
  | y :: r => by
    have := sum_flat r
    simp only [List.map_cons, List.sum_cons, this]
    simp [flat, Str.length]

theorem joinM {D : Addr} {x : Str} {t : Tok} {vs : List Value} {ys : List Str} {Q : Value → Shared → Prop} (hl : LL s.heap D vs) (hi : StrsAre vs ys) (hok : (ys.map (·.length)).sum + ys.length * x.length ≤ 16777216)
    (h : ∀ t' s', Kp s s' → Q (.str (Str.join x ys) t') s') : wpAny (model prog w) A (call (.builtin "str.join") [.str x t, .ref D]) Q E s := by
  obtain ⟨l, hv, ht⟩ := strsAre_values hi
  subst ht hv
  have hok' := joinOk_of hok
  unfold JoinOk at hok'
  rw [Bool.not_eq_true'] at hok'
  have hz := joinFit_length hok'
  refine call_meets PySem.F.slot_str_join (typeIs_str _ _ _) PySem.F.entry_str_join (PySem.F.args_str_join_2 _ _) (meets_str_join_list x t D l hok') ⟨hl.is, ?_⟩
  rw [← PySem.StrLaws.glued_eq_join] at h
  match l, h, hz with
  | [], h, hz => exact ⟨hz, h _ _ Kp.one⟩
  | [p], h, hz => exact h p.2 s Kp.refl
  | _ :: _ :: _, h, hz => exact ⟨hz, h _ _ Kp.one⟩

theorem pushI {s₀ : Shared} {D : Addr} {vs : List Value} {v : Value} {Q : Unit → Shared → Prop} (hD : LL s.heap D vs) (h0 : s₀.heap.get? D = none) (k : Kp s₀ s) (hz : vs.length ≤ sizeLine)
    (h : ∀ s', Kp s₀ s' → LL s'.heap D (vs ++ [v]) → Q () s') : wpAny (model prog w) A (updateSeq D (·.push v)) Q E s := by
  obtain ⟨n, hn⟩ := hD
  refine wpAny_updateSeq hn rfl (h _ ?_ ?_) (by simpa using hz) (by simpa using Nat.succ_le_succ hz)
  · obtain ⟨⟨h', t, rfl⟩, b, c⟩ := k
    refine ⟨⟨_, t, rfl⟩, b, fun a o e => ?_⟩
    have hne : a ≠ D := by rintro rfl; rw [h0] at e; cases e
    exact (Heap.get?_update_ne _ _ _ _ hne).trans (c a o e)
  · have e := Heap.get?_update_self (Obj.mapSeq (·.push v)) hn rfl
    simp only [Obj.mapSeq, List.push_toArray] at e
    exact ⟨_, e⟩

theorem sliceI {T : Array Nat} {b e : Nat} {Q : Value → Shared → Prop} (hT : T.size ≤ 100000) (h : ∀ s' t, Kp s s' → Q (.str ⟨T.extract b e⟩ t) s') : wpAny (model prog w) A (reSlice T 0 b e) Q E s := by
  unfold reSlice
  rw [if_pos (show ((0 : Nat) == 0) = true from rfl)]
  refine wpAny_mkStr (h _ _ Kp.one) ?_
  have e1 : (2 : Nat) ^ 24 = 16777216 := by decide
  show (T.extract b e).size ≤ sizeLine
  unfold sizeLine
  rw [Array.size_extract]
  omega
end

section
variable {prog : Program} {w : World} {A : Around} {E : Value → Shared → Prop}

theorem sub_loop {s₀ : Shared} {P D : Addr} {rc : Array Nat} {x y : Str} {t u : Tok} {hit : Nat → Bool} {wd : Nat → Nat} {rest : Nat → List Nat} {Q : Value → Shared → Prop}
    (HP : PatAt s₀.heap P rc) (S : Searches rc x.cps hit wd) (R : Rests x.cps hit wd y.cps.toList rest) (hT : x.cps.size ≤ 100000) (hr : (rest 0).length ≤ 100000) (hy : 1 ≤ y.cps.size)
    (h0 : s₀.heap.get? D = none) (hQ : ∀ (z : Str) t' s', Kp s₀ s' → z.cps.toList = rest 0 → Q (.str z t') s') :
    ∀ (k done : Nat) (n : Int) (s : Shared) (vs : List Value) (ys : List Str), x.cps.size - done ≤ k → done ≤ x.cps.size → Kp s₀ s → LL s.heap D vs → StrsAre vs ys → vs.length ≤ (flat ys).length → flat ys ++ rest done = rest 0 →
    codeAny (model prog w) A (.builtin "re.Pattern.sub.loop" ⟨[.ref P, .str x t, .str y u, rawInt 0, rawInt 0, rawInt n, rawInt (done : Nat), rawInt (done : Nat), .bool false, .ref D, .bool false], []⟩)
      (fun r s' => match r with | .ok (.ret v) => Q v s' | .ok _ => False | .error e => E e s') s := by
  intro k
  induction k using Nat.strongRecOn with
  | _ k ih =>
  intro done n s vs ys hk hd K hD hv hl hf
  have e24 : (2 : Nat) ^ 24 = 16777216 := by decide
  have hfl : (flat ys).length ≤ 100000 := by rw [← hf, List.length_append] at hr; omega
  have hvz : vs.length ≤ sizeLine := by unfold sizeLine; omega
  refine codeAny_builtin pat_entryL ?_
  rw [Around.under_plainId (by decide +kernel)]
  unfold Builtin.«re.Pattern.sub.loop»
  dsimp only [rawInt]
  refine wpAny_bind (whole (HP.up K.sub) ?_)
  simp only [show ((0 : Int) == 0) = true from rfl, show ((0 : Int) != 0) = false from rfl, Bool.false_and, if_true, Bool.false_eq_true, if_false, Int.toNat_natCast]
  refine wpAny_bind (wpAny_of_eq (show reLiteralCannotBeTurned (.str y u) = pure () from rfl) ?_)
  obtain ⟨n', m', hn', hruns, hends⟩ := S done hd
  unfold reNextFound
  refine wpAny_bind (run_end hruns (by omega) hends (fun q hq hst hha => ?_) (fun hq => ?_))
  · dsimp only
    obtain ⟨w1, w2, w3⟩ := R.some done q hd hq
    obtain ⟨b1, b2, b3, b4⟩ := scan_some hq
    rw [hst]
    have fin : ∀ s₁ vs₁ ys₁, Kp s₀ s₁ → LL s₁.heap D vs₁ → StrsAre vs₁ ys₁ → vs₁.length ≤ (flat ys₁).length → flat ys₁ ++ (y.cps.toList ++ rest (q + wd q)) = rest 0 →
        wpAny (model prog w) A.in1 (updateSeq D (·.push (.str y u)) >>= fun _ => again (.builtin "re.Pattern.sub.loop" ⟨[.ref P, .str x t, .str y u, rawInt 0, rawInt 0, rawInt (n + 1), rawInt (m'.handed : Nat), rawInt (m'.handed : Nat), .bool (m'.handed == q), .ref D, .bool false], []⟩))
          (fun fin s' => match fin with | .done f => (match (Except.ok f : Result) with | .ok (.ret v) => Q v s' | .ok _ => False | .error e => E e s') | .again c' => c'.quiet = true ∧ codeAny (model prog w) A c' (fun r s' => match r with | .ok (.ret v) => Q v s' | .ok _ => False | .error e => E e s') s') (fun e s' => E e s') s₁ := by
      intro s₁ vs₁ ys₁ K₁ hD₁ hv₁ hl₁ hf₁
      have hfl₁ : (flat ys₁).length ≤ 100000 := by rw [← hf₁, List.length_append] at hr; omega
      refine wpAny_bind (pushI hD₁ h0 K₁ (by unfold sizeLine; omega) fun s₂ K₂ hD₂ => wpAny_pure ⟨plainId_quiet (by decide +kernel) _, ?_⟩)
      rw [hha, show ((q + wd q == q) = false) from beq_false_of_ne (by omega)]
      refine ih (x.cps.size - (q + wd q)) (by omega) (q + wd q) (n + 1) s₂ _ _ (Nat.le_refl _) w2 K₂ hD₂ (strsAre_snoc hv₁ y u) ?_ ?_
      · rw [flat_snoc, List.length_append, List.length_append]
        simp only [List.length_singleton, Array.length_toList]
        omega
      · rw [flat_snoc, List.append_assoc]; exact hf₁
    by_cases hlt : done < q
    · rw [if_pos hlt]
      refine wpAny_bind (sliceI hT fun s₁ t₁ K₁ => ?_)
      refine wpAny_bind (pushI (hD.up K₁.sub) h0 (K.trans K₁) hvz fun s₂ K₂ hD₂ => ?_)
      refine wpAny_bind (wpAny_pure ?_)
      rw [if_pos (by rfl)]
      refine fin s₂ _ _ K₂ hD₂ (strsAre_snoc hv _ t₁) ?_ ?_
      · rw [flat_snoc, List.length_append, List.length_append]
        simp only [List.length_singleton, Array.length_toList, Array.size_extract]
        omega
      · rw [flat_snoc, ← hf, w3]; simp only [List.append_assoc]
    · rw [if_neg hlt]
      refine wpAny_bind (wpAny_pure ?_)
      rw [if_pos (by rfl)]
      refine fin s vs ys K hD hv hl ?_
      rw [← hf, w3, show q = done by omega]
      simp
  · dsimp only
    have w3 := R.none done hd hq
    have fin : ∀ s₁ vs₁ ys₁, Kp s₀ s₁ → LL s₁.heap D vs₁ → StrsAre vs₁ ys₁ → vs₁.length ≤ (flat ys₁).length → flat ys₁ = rest 0 →
        wpAny (model prog w) A.in1 (reSlice x.cps 0 0 0 >>= fun joiner => seqItems? (.ref D) >>= fun i => if (i.getD #[]).isEmpty = true then (pure joiner >>= fun text => ret text) else (call (.builtin "str.join") [joiner, .ref D] >>= fun text => ret text))
          (fun fin s' => match fin with | .done f => (match (Except.ok f : Result) with | .ok (.ret v) => Q v s' | .ok _ => False | .error e => E e s') | .again c' => c'.quiet = true ∧ codeAny (model prog w) A c' (fun r s' => match r with | .ok (.ret v) => Q v s' | .ok _ => False | .error e => E e s') s') (fun e s' => E e s') s₁ := by
      intro s₁ vs₁ ys₁ K₁ hD₁ hv₁ hl₁ hf₁
      refine wpAny_bind (sliceI hT fun s₂ t₂ K₂ => ?_)
      obtain ⟨n₂, hn₂⟩ := hD₁.up K₂.sub
      refine wpAny_bind (wpAny_seqItems hn₂ rfl ?_)
      by_cases he : ((some vs₁.toArray).getD #[]).isEmpty = true
      · rw [if_pos he]
        refine wpAny_bind (wpAny_pure (wpAny_pure (hQ _ _ _ (K₁.trans K₂) ?_)))
        have : vs₁ = [] := by simpa using he
        subst this
        cases hv₁
        rw [← hf₁]
        simp [flat]
      · rw [if_neg he]
        refine wpAny_bind (joinM (hD₁.up K₂.sub) hv₁ ?_ fun t' s' K' => wpAny_pure (hQ _ _ _ ((K₁.trans K₂).trans K') ?_))
        · rw [sum_flat, hf₁]; simp [Str.length]; omega
        · rw [join_flat _ (by simp), hf₁]
    by_cases hlt : done < x.cps.size
    · rw [if_pos hlt]
      refine wpAny_bind (sliceI hT fun s₁ t₁ K₁ => ?_)
      refine wpAny_bind (pushI (hD.up K₁.sub) h0 (K.trans K₁) hvz fun s₂ K₂ hD₂ => ?_)
      refine fin s₂ _ _ K₂ hD₂ (strsAre_snoc hv _ t₁) ?_ ?_
      · rw [flat_snoc, List.length_append, List.length_append]
        simp only [List.length_singleton, Array.length_toList, Array.size_extract]
        omega
      · rw [flat_snoc, ← hf, w3]
    · rw [if_neg hlt]
      refine fin s vs ys K hD hv hl ?_
      rw [← hf, w3, show done = x.cps.size by omega]
      simp

theorem call_sub {s : Shared} {P : Addr} {rc : Array Nat} {x y : Str} {t u : Tok} {hit : Nat → Bool} {wd : Nat → Nat} {rest : Nat → List Nat} {Q : Value → Shared → Prop}
    (HP : PatAt s.heap P rc) (S : Searches rc x.cps hit wd) (R : Rests x.cps hit wd y.cps.toList rest) (hT : x.cps.size ≤ 100000) (hr : (rest 0).length ≤ 100000) (hy : 1 ≤ y.cps.size) (hb : y.cps.contains 92 = false)
    (hQ : ∀ (z : Str) t' s', Kp s s' → z.cps.toList = rest 0 → Q (.str z t') s') : wpAny (model prog w) A (call (.builtin "re.Pattern.sub") [.ref P, .str y u, .str x t]) Q E s := by
  obtain ⟨o, fs, C, oc, ws, n, a, b, c, d, e, f, g, i, j, k⟩ := id HP.ex
  refine wpAny_call (codeAny_call_builtin pat_sub.plain pat_entry (pat_sub.check _ _ _ _ _ _ _ _ ⟨o, a, b⟩ (pat_args _ _ _) ?_))
  unfold Builtin.«re.Pattern.sub» reSubstitute
  dsimp only
  refine wpAny_bind (wpAny_of_eq (pat_named _ _) ?_)
  dsimp only
  refine wpAny_bind (wpAny_pure ?_)
  refine wpAny_bind (wpAny_specialOf (typeIs_str _ _ _) str_nocall ?_)
  simp only [Option.isSome_none, Bool.false_eq_true, if_false]
  refine wpAny_bind (wpAny_of_eq (show asStr? (.str y u) = pure (some y) from rfl) ?_)
  dsimp only
  refine wpAny_bind (wpAny_pure ?_)
  rw [hb]
  simp only [Bool.not_false, if_true]
  refine wpAny_bind (wpAny_pure ?_)
  dsimp only
  refine wpAny_bind (wpAny_holding (whole HP ?_))
  simp only [show ((0 : Int) == 1) = false from rfl, Bool.false_eq_true, if_false]
  refine wpAny_bind (listI (by simp) fun s' D K hD h0 => ?_)
  exact wpAny_pure ⟨plainId_quiet (by decide +kernel) _, sub_loop HP S R hT hr hy h0 hQ (x.cps.size) 0 0 s' [] [] (by omega) (by omega) K hD .nil (by simp [flat]) (by simp [flat])⟩
end
end Mine
namespace Mine
open PySem PySem.Sre PySem.W PyProof.Rows PySem.Builtin PySem.Builtin.Re

/-- line ends made both signs (b: a return went just ahead) -/
def crlfs : Bool → List Nat → List Nat
  | _, [] => []
  | b, c :: r => if c = 10 then (if b then crlfs false r else 13 :: 10 :: crlfs false r) else if c = 13 then 13 :: 10 :: crlfs true r else c :: crlfs false r
/-- a dot more at the head of a line (b: a line begins here) -/
def stuff : Bool → List Nat → List Nat
  | _, [] => []
  | b, c :: r => (if b && c == 46 then [46, 46] else [c]) ++ stuff (c == 10) r

theorem stuff_cons (b : Bool) (c : Nat) (r : List Nat) : stuff b (c :: r) = (if b && c == 46 then [46, 46] else [c]) ++ stuff (c == 10) r := rfl
theorem crlfs_len : ∀ (b : Bool) (l : List Nat), (crlfs b l).length ≤ 2 * l.length
  | _, [] => Nat.le_refl _
  | b, c :: r => by
    have h1 := crlfs_len false r
    have h2 := crlfs_len true r
    unfold crlfs
    split
    · split <;> simp only [List.length_cons] <;> omega
    · split <;> simp only [List.length_cons] <;> omega
theorem stuff_len : ∀ (b : Bool) (l : List Nat), (stuff b l).length ≤ 2 * l.length
  | _, [] => Nat.le_refl _
  | b, c :: r => by
    have h1 := stuff_len (c == 10) r
    unfold stuff
    split <;> simp only [List.length_append, List.length_cons, List.length_nil] <;> omega

theorem drop_getD {T : Array Nat} {i : Nat} (h : i < T.size) : T.toList.drop i = T.getD i 0 :: T.toList.drop (i + 1) := by
  rw [List.drop_eq_getElem_cons (by simpa using h)]
  simp [Array.getD, h]

theorem pass (g : Bool → List Nat → List Nat) (st : Nat → Bool) (T : Array Nat) (hit : Nat → Bool)
    (hstep : ∀ i, i < T.size → hit i = false → g (st i) (T.toList.drop i) = T.getD i 0 :: g (st (i + 1)) (T.toList.drop (i + 1))) :
    ∀ n d, d + n ≤ T.size → (∀ i, d ≤ i → i < d + n → hit i = false) → g (st d) (T.toList.drop d) = (T.extract d (d + n)).toList ++ g (st (d + n)) (T.toList.drop (d + n))
  | 0, d, _, _ => by simp
  | n + 1, d, hn, hh => by
    have e := pass g st T hit hstep n (d + 1) (by omega) (fun i h1 h2 => hh i (by omega) (by omega))
    rw [hstep d (by omega) (hh d (Nat.le_refl _) (by omega)), e, show d + 1 + n = d + (n + 1) by omega]
    have : (T.extract d (d + (n + 1))).toList = T.getD d 0 :: (T.extract (d + 1) (d + (n + 1))).toList := by
      rw [Array.toList_extract, Array.toList_extract, List.extract_eq_take_drop, List.extract_eq_take_drop, drop_getD (by omega), show d + (n + 1) - d = (d + (n + 1) - (d + 1)) + 1 by omega, List.take_succ_cons]
    rw [this, List.cons_append]

theorem step1 (T : Array Nat) : ∀ i, i < T.size → hit1 T i = false → stuff (bol T i) (T.toList.drop i) = T.getD i 0 :: stuff (bol T (i + 1)) (T.toList.drop (i + 1)) := by
  intro i hi hh
  unfold hit1 at hh
  rw [drop_getD hi, stuff_cons, hh]
  rfl
theorem step2 (T : Array Nat) : ∀ i, i < T.size → hit2 T i = false → crlfs false (T.toList.drop i) = T.getD i 0 :: crlfs false (T.toList.drop (i + 1)) := by
  intro i hi hh
  rw [drop_getD hi]
  unfold hit2 at hh
  rw [Bool.or_eq_false_iff] at hh
  rw [crlfs, if_neg (by simpa using hh.1), if_neg (by simpa using hh.2)]

theorem rests1 (T : Array Nat) : Rests T (hit1 T) (fun _ => 1) [46, 46] (fun d => stuff (bol T d) (T.toList.drop d)) where
  some := by
    intro d q hd hq
    obtain ⟨a, b, c, e⟩ := scan_some hq
    have hq' : q < T.size := by omega
    refine ⟨Nat.le_refl _, hq', ?_⟩
    have hp := pass stuff (bol T) T (hit1 T) (step1 T) (q - d) d (by omega) (fun i h1 h2 => e i h1 (by omega))
    rw [show d + (q - d) = q by omega] at hp
    rw [hp, drop_getD hq', List.append_assoc]
    congr 1
    unfold hit1 at c
    rw [stuff, c]
    rfl
  none := by
    intro d hd hq
    have e := scan_none hq
    have hp := pass stuff (bol T) T (hit1 T) (step1 T) (T.size - d) d (by omega) (fun i h1 h2 => e i h1 h2)
    rw [show d + (T.size - d) = T.size by omega] at hp
    rw [hp, List.drop_eq_nil_of_le (by simp)]
    simp [stuff]

theorem rests2 (T : Array Nat) : Rests T (hit2 T) (wid2 T) [13, 10] (fun d => crlfs false (T.toList.drop d)) where
  some := by
    intro d q hd hq
    obtain ⟨a, b, c, e⟩ := scan_some hq
    have hq' : q < T.size := by omega
    have hw1 : 1 ≤ wid2 T q := by unfold wid2; split <;> omega
    have hw2 : q + wid2 T q ≤ T.size := by
      unfold wid2
      split
      · rename_i h
        unfold crlf at h
        rw [Bool.and_eq_true] at h
        have := getD_lt (T := T) (i := q + 1) (by rw [eq_of_beq h.2]; decide)
        omega
      · omega
    refine ⟨hw1, hw2, ?_⟩
    have hp := pass crlfs (fun _ => false) T (hit2 T) (step2 T) (q - d) d (by omega) (fun i h1 h2 => e i h1 (by omega))
    rw [show d + (q - d) = q by omega] at hp
    rw [hp, drop_getD hq', List.append_assoc]
    congr 1
    by_cases h10 : T.getD q 0 = 10
    · have : wid2 T q = 1 := by unfold wid2 crlf; rw [h10]; rfl
      rw [this, crlfs, if_pos h10]
      rfl
    · have h13 : T.getD q 0 = 13 := by
        unfold hit2 at c
        rw [beq_false_of_ne h10, Bool.false_or] at c
        exact eq_of_beq c
      rw [crlfs, if_neg h10, if_pos h13]
      by_cases hc : crlf T q = true
      · have : wid2 T q = 2 := by unfold wid2; rw [if_pos hc]
        rw [this]
        unfold crlf at hc
        rw [Bool.and_eq_true] at hc
        have h1 := eq_of_beq hc.2
        rw [drop_getD (i := q + 1) (getD_lt (by rw [h1]; decide)), crlfs, if_pos h1]
        rfl
      · have : wid2 T q = 1 := by unfold wid2; rw [if_neg hc]
        rw [this]
        show 13 :: 10 :: _ = 13 :: 10 :: _
        congr 2
        rcases Nat.lt_or_ge (q + 1) T.size with hl | hl
        · rw [drop_getD hl]
          have h1 : T.getD (q + 1) 0 ≠ 10 := fun h => hc (by unfold crlf; rw [h13, h]; rfl)
          rw [crlfs, crlfs, if_neg h1, if_neg h1]
          rfl
        · rw [List.drop_eq_nil_of_le (by simpa using hl)]
          rfl
  none := by
    intro d hd hq
    have e := scan_none hq
    have hp := pass crlfs (fun _ => false) T (hit2 T) (step2 T) (T.size - d) d (by omega) (fun i h1 h2 => e i h1 (by omega))
    rw [show d + (T.size - d) = T.size by omega] at hp
    rw [hp, List.drop_eq_nil_of_le (by simp)]
    simp [crlfs]

theorem searches1 (T : Array Nat) : Searches rc1 T (hit1 T) (fun _ => 1) := fun s hs => by
  obtain ⟨n, m', a, b, c⟩ := search1 T s hs
  exact ⟨n, m', by omega, b, c⟩
theorem searches2 (T : Array Nat) : Searches rc2 T (hit2 T) (wid2 T) := fun s hs => by
  obtain ⟨n, m', a, b, c⟩ := search2 T s hs
  exact ⟨n, m', by omega, b, c⟩

section
variable {prog : Program} {w : World} {A : Around} {E : Value → Shared → Prop}

theorem sub1 {s : Shared} {x : Str} {t u : Tok} {Q : Value → Shared → Prop} (HP : PatAt s.heap 78 rc1) (hT : x.cps.size ≤ 50000)
    (hQ : ∀ (z : Str) t' s', Kp s s' → z.cps.toList = stuff true x.cps.toList → Q (.str z t') s') : wpAny (model prog w) A (call (.builtin "re.Pattern.sub") [.ref 78, .str ".." u, .str x t]) Q E s := by
  refine call_sub HP (searches1 _) (rests1 _) (by omega) ?_ (by decide +kernel) (by decide +kernel) hQ
  have := stuff_len (bol x.cps 0) (x.cps.toList.drop 0)
  simp only [List.drop_zero, Array.length_toList] at this ⊢
  omega
theorem sub2 {s : Shared} {x : Str} {t u : Tok} {Q : Value → Shared → Prop} (HP : PatAt s.heap 83 rc2) (hT : x.cps.size ≤ 50000)
    (hQ : ∀ (z : Str) t' s', Kp s s' → z.cps.toList = crlfs false x.cps.toList → Q (.str z t') s') : wpAny (model prog w) A (call (.builtin "re.Pattern.sub") [.ref 83, .str "\r\n" u, .str x t]) Q E s := by
  refine call_sub HP (searches2 _) (rests2 _) (by omega) ?_ (by decide +kernel) (by decide +kernel) hQ
  have := crlfs_len false (x.cps.toList.drop 0)
  simp only [List.drop_zero, Array.length_toList] at this ⊢
  omega
end
end Mine
namespace Mine
open PySem PySem.Sre PySem.W PyProof.Rows PySem.Builtin PySem.Builtin.Re

section
variable {prog : Program} {w : World} {A : Around} {E : Value → Shared → Prop}

theorem sub_on {P : Addr} {rc : Array Nat} {pos : Pos} {s : Shared} {t₁ t₂ : Sem Value} {Q : Value → Shared → Prop} (HP : PatAt s.heap P rc)
    (h : wpAny (model prog w) A t₁ (fun v₁ s₁ => wpAny (model prog w) A t₂ (fun v₂ s₂ => wpAny (model prog w) A (call (.builtin "re.Pattern.sub") [.ref P, v₁, v₂]) Q E s₂) E s₁) E s) :
    MethodOnS prog w A E "sub" (.ref P) pos [(false, t₁), (false, t₂)] Q s := by
  obtain ⟨o, fs, C, oc, ws, n, a, b, c, d⟩ := HP.ex
  refine ⟨"re.Pattern", "re.Pattern.sub", pat_attrs, pat_sub, pat_type, ⟨o, a, b⟩, (fun x e => by cases e; exact ⟨o, a, c⟩), ?_⟩
  exact Calls.callWith_builtin rfl (Calls.evalArgs_plain (Calls.spliced_cons (wpAny_mono h (fun v s₂ q => Calls.spliced_cons (wpAny_mono q (fun v s₃ q => Calls.spliced_nil q) fun _ _ z => z)) fun _ _ z => z)))

theorem call_quotedata {s : Shared} {x : Str} {t : Tok} {Q : Value → Shared → Prop} (G : Glb s.heap) (hroom : A.depth < recursionLimit) (hT : x.cps.size ≤ 20000)
    (hQ : ∀ (z : Str) t' s', Kp s s' → z.cps.toList = stuff true (crlfs false x.cps.toList) → Q (.str z t') s') : wpAny (model prog w) A (call (.ref 90) [.str x t]) Q E s := by
  refine call_fn (binds := [("data", .str x t)]) G G.fQuote hroom (fun pm => rfl) (by decide +kernel) rfl rfl rfl rfl fun s₁ F => ?_
  have G₁ := G.up F.sub
  refine wpAny_execs_cons (wpAny_Return_some ?_)
  refine Call_method2 rfl rfl (by decide +kernel) ?_
  refine G₁.nameU (fun mg n => n.re1) ?_
  refine sub_on G₁.p1 (constS fun s₂ t₂ K₂ => ?_)
  have G₂ := G₁.up K₂.sub
  refine Call_method2 rfl rfl (by decide +kernel) ?_
  refine G₂.nameU (fun mg n => n.re2) ?_
  refine sub_on G₂.p2 ?_
  obtain ⟨mg, hn, hm⟩ := G₂.glob
  obtain ⟨tc, hc⟩ := hm.crlf
  refine Calls.Name_function_global rfl rfl (Calls.loadGlobal_global hn hc ?_) rfl
  refine (F.kp K₂).name rfl rfl ?_
  refine sub2 G₂.p2 (by omega) fun z₁ t₃ s₃ K₃ hz₁ => ?_
  have G₃ := G₂.up K₃.sub
  refine sub1 G₃.p1 ?_ fun z₂ t₄ s₄ K₄ hz₂ => ?_
  · have := crlfs_len false x.cps.toList
    rw [← hz₁] at this
    simp only [Array.length_toList] at this
    omega
  · refine hQ z₂ t₄ s₄ ?_ (by rw [hz₂, hz₁])
    have F' := F.kp ((K₂.trans K₃).trans K₄)
    exact ⟨F'.same, F'.tok, F'.sub⟩
end
end Mine
namespace Mine
open PySem PySem.W PyProof.Rows

/-- what an asking tree comes to when all is told -/
def told {α : Type} (c : Nat → Nat → Bool) : KasT α → α
  | .ret a => a
  | .ask i j k => told c (k (c i j))
theorem told_bind {α β : Type} (c : Nat → Nat → Bool) (f : α → KasT β) : ∀ t : KasT α, told c (t.bind f) = told c (f (told c t))
  | .ret _ => rfl
  | .ask i j k => told_bind c f (k (c i j))

section
variable (O : KeyOrd) (f : Nat → O.α)
/-- the answer by keys -/
def byKey (i j : Nat) : Bool := O.blt (f i) (f j)
def KP (p : Array Nat) (i : Nat) : O.α := f (p.getD i 0)
variable {O f}

theorem told_asc {p : Array Nat} : ∀ (k n : Nat), n ≤ told (byKey O f) (kas_asc p k n) ∧ told (byKey O f) (kas_asc p k n) ≤ n + k ∧
    (∀ i, n ≤ i → i < told (byKey O f) (kas_asc p k n) → O.kle (KP O f p (i - 1)) (KP O f p i)) ∧
    (told (byKey O f) (kas_asc p k n) < n + k → O.klt (KP O f p (told (byKey O f) (kas_asc p k n))) (KP O f p (told (byKey O f) (kas_asc p k n) - 1)))
  | 0, n => ⟨Nat.le_refl _, Nat.le_refl _, fun i h1 h2 => absurd h1 (Nat.not_le.mpr h2), fun h => absurd h (Nat.lt_irrefl _)⟩
  | k + 1, n => by
    unfold kas_asc
    unfold told
    try dsimp only
    by_cases h : byKey O f (p.getD n 0) (p.getD (n - 1) 0) = true
    · rw [if_pos h]
      exact ⟨Nat.le_refl _, Nat.le_add_right _ _, fun i h1 h2 => absurd h1 (Nat.not_le.mpr h2), fun _ => h⟩
    · rw [if_neg h]
      obtain ⟨a, b, c, d⟩ := told_asc (p := p) k (n + 1)
      refine ⟨by omega, by omega, fun i h1 h2 => ?_, fun h3 => d (by omega)⟩
      by_cases q : i = n
      · subst q
        exact KeyOrd.kle_of_not_klt h
      · exact c i (by omega) h2

theorem rev_size (p : Array Nat) (i j : Nat) : (kas_rev p i j).size = p.size := mirror_size _ _ _ _
theorem rev_perm (p : Array Nat) (i j : Nat) : (kas_rev p i j).Perm p := mirror_perm _ _ _ _
theorem KP_congr {p q : Array Nat} {i j : Nat} (h : p[i]? = q[j]?) : KP O f p i = KP O f q j := by
  unfold KP
  rw [Array.getD_eq_getD_getElem?, Array.getD_eq_getD_getElem?, h]
theorem KP_rev {p : Array Nat} {i j : Nat} (hj : j ≤ p.size) (k : Nat) : KP O f (kas_rev p i j) k = if i ≤ k ∧ k < j then KP O f p (i + j - 1 - k) else KP O f p k := by
  have e := getElem?_mirror_all (i := i) hj k
  by_cases h1 : i ≤ k ∧ k < j
  · rw [if_pos h1] at e ⊢; exact KP_congr e
  · rw [if_neg h1] at e ⊢; exact KP_congr e
theorem KP_rev_equal {p : Array Nat} {i j : Nat} (hj : j ≤ p.size) (heq : ∀ k, i ≤ k → k < j → KP O f p k = KP O f p (j - 1)) (k : Nat) : KP O f (kas_rev p i j) k = KP O f p k := by
  rw [KP_rev hj]
  by_cases h1 : i ≤ k ∧ k < j
  · rw [if_pos h1, heq k h1.1 h1.2, heq _ (by omega) (by omega)]
  · rw [if_neg h1]
theorem KP_bubble {p : Array Nat} {src d : Nat} (hs : src < p.size) (hd : d ≤ src) (k : Nat) :
    KP O f (bubble p src d) k = if k = src - d then KP O f p src else if src - d < k ∧ k ≤ src then KP O f p (k - 1) else KP O f p k := by
  have e := getElem?_bubble hs d hd k
  by_cases h1 : k = src - d
  · rw [if_pos h1] at e ⊢; exact KP_congr e
  · rw [if_neg h1] at e ⊢
    by_cases h2 : src - d < k ∧ k ≤ src
    · rw [if_pos h2] at e ⊢; exact KP_congr e
    · rw [if_neg h2] at e ⊢; exact KP_congr e

variable (O f) in
/-- in order up to k -/
def Up (p : Array Nat) (k : Nat) : Prop := ∀ i j, i ≤ j → j < k → O.kle (KP O f p i) (KP O f p j)
variable (O f) in
def Down (p : Array Nat) (k : Nat) : Prop := ∀ i j, i ≤ j → j < k → O.kle (KP O f p j) (KP O f p i)
theorem up_of_steps {p : Array Nat} {n : Nat} : ∀ (m : Nat), Up O f p n → 1 ≤ n → n ≤ m → (∀ i, n ≤ i → i < m → O.kle (KP O f p (i - 1)) (KP O f p i)) → Up O f p m
  | 0, h, h1, hm, _ => by omega
  | m + 1, h, h1, hm, hs => by
    by_cases q : n = m + 1
    · subst q; exact h
    · have ih := up_of_steps m h h1 (by omega) (fun i a b => hs i a (by omega))
      intro i j hij hj
      by_cases e : j = m
      · subst e
        by_cases e2 : i = j
        · subst e2; exact KeyOrd.kle_refl _
        · exact KeyOrd.kle_trans (ih i (j - 1) (by omega) (by omega)) (hs j (by omega) (Nat.lt_succ_self _))
      · exact ih i j hij (by omega)

theorem told_desc : ∀ (k : Nat) (p : Array Nat) (n q : Nat), n + k ≤ p.size → q + 1 ≤ n → Down O f p n → (∀ i, n - 1 - q ≤ i → i < n → KP O f p i = KP O f p (n - 1)) →
    let r := told (byKey O f) (kas_desc k p n q)
    n ≤ r.2.1 ∧ r.2.1 ≤ n + k ∧ r.2.2 + 1 ≤ r.2.1 ∧ Down O f r.1 r.2.1 ∧ r.1.size = p.size ∧ r.1.Perm p ∧ (∀ i, r.2.1 - 1 - r.2.2 ≤ i → i < r.2.1 → KP O f r.1 i = KP O f r.1 (r.2.1 - 1))
  | 0, p, n, q, hn, hq, hd, he => ⟨Nat.le_refl _, Nat.le_refl _, hq, hd, rfl, Array.Perm.refl _, he⟩
  | k + 1, p, n, q, hn, hq, hd, he => by
    intro r
    have hr : r = told (byKey O f) (kas_desc (k + 1) p n q) := rfl
    unfold kas_desc at hr
    unfold told at hr
    try dsimp only at hr
    by_cases h : byKey O f (p.getD n 0) (p.getD (n - 1) 0) = true
    · rw [if_pos h] at hr
      have hd1 : Down O f p (n + 1) := by
        intro i j hij hj
        by_cases e : j = n
        · subst e
          by_cases e2 : i = j
          · subst e2; exact KeyOrd.kle_refl _
          · exact KeyOrd.kle_trans (KeyOrd.kle_of_klt h) (hd i (j - 1) (by omega) (by omega))
        · exact hd i j hij (by omega)
      by_cases hq0 : q > 0
      · rw [if_pos hq0] at hr
        have ek : ∀ i, KP O f (kas_rev p (n - (q + 1)) n) i = KP O f p i := KP_rev_equal (by omega) fun i a b => he i (by omega) b
        have ih := told_desc k (kas_rev p (n - (q + 1)) n) (n + 1) 0 (by rw [rev_size]; omega) (by omega) (fun i j a b => by rw [ek, ek]; exact hd1 i j a b) (fun i a b => by rw [show i = n + 1 - 1 by omega])
        rw [← hr] at ih
        obtain ⟨a, b, c, d, e, g, h2⟩ := ih
        exact ⟨by omega, by omega, c, d, e.trans (rev_size _ _ _), g.trans (rev_perm _ _ _), h2⟩
      · rw [if_neg hq0] at hr
        have ih := told_desc k p (n + 1) 0 (by omega) (by omega) hd1 (fun i a b => by rw [show i = n + 1 - 1 by omega])
        rw [← hr] at ih
        obtain ⟨a, b, c, d, e, g, h2⟩ := ih
        exact ⟨by omega, by omega, c, d, e, g, h2⟩
    · rw [if_neg h] at hr
      unfold told at hr
      try dsimp only at hr
      by_cases h' : byKey O f (p.getD (n - 1) 0) (p.getD n 0) = true
      · rw [if_pos h'] at hr
        rw [hr]
        exact ⟨Nat.le_refl _, Nat.le_add_right _ _, hq, hd, rfl, Array.Perm.refl _, he⟩
      · rw [if_neg h'] at hr
        have heq : KP O f p n = KP O f p (n - 1) := KeyOrd.kle_antisymm (KeyOrd.kle_of_not_klt h') (KeyOrd.kle_of_not_klt h)
        have hd1 : Down O f p (n + 1) := by
          intro i j hij hj
          by_cases e : j = n
          · subst e
            by_cases e2 : i = j
            · subst e2; exact KeyOrd.kle_refl _
            · rw [heq]; exact hd i (j - 1) (by omega) (by omega)
          · exact hd i j hij (by omega)
        have ih := told_desc k p (n + 1) (q + 1) (by omega) (by omega) hd1 (fun i a b => by
          rw [show n + 1 - 1 = n by omega]
          by_cases e : i = n
          · rw [e]
          · rw [heq]; exact he i (by omega) (by omega))
        rw [← hr] at ih
        obtain ⟨a, b, c, d, e, g, h2⟩ := ih
        exact ⟨by omega, by omega, c, d, e, g, h2⟩

theorem told_tail3 {p : Array Nat} {n nrem : Nat} (hn : n ≤ nrem) (h1 : 1 ≤ n) (hs : nrem ≤ p.size) (hd : Down O f p n) :
    let r := told (byKey O f) (kas_tail3 n nrem p)
    n ≤ r.1 ∧ r.1 ≤ nrem ∧ r.2.size = p.size ∧ r.2.Perm p ∧ Up O f r.2 r.1 := by
  intro r
  have hr : r = told (byKey O f) (kas_tail3 n nrem p) := rfl
  unfold kas_tail3 at hr
  rw [told_bind] at hr
  obtain ⟨a, b, c, d⟩ := told_asc (O := O) (f := f) (p := kas_rev p 0 n) (nrem - n) n
  rw [hr]
  refine ⟨a, by unfold told; omega, rev_size _ _ _, rev_perm _ _ _, ?_⟩
  refine up_of_steps _ (fun i j hij hj => ?_) h1 a c
  show O.kle (KP O f (kas_rev p 0 n) i) (KP O f (kas_rev p 0 n) j)
  rw [KP_rev (by omega), KP_rev (by omega), if_pos ⟨Nat.zero_le _, by omega⟩, if_pos ⟨Nat.zero_le _, by omega⟩]
  exact hd _ _ (by omega) (by omega)

theorem told_descPart {p : Array Nat} {n nrem : Nat} (hn : n + 1 ≤ nrem) (hs : nrem ≤ p.size) (hd : Down O f p (n + 1)) :
    let r := told (byKey O f) (kas_descPart n nrem p)
    1 ≤ r.1 ∧ r.1 ≤ nrem ∧ r.2.size = p.size ∧ r.2.Perm p ∧ Up O f r.2 r.1 := by
  intro r
  have hr : r = told (byKey O f) (kas_descPart n nrem p) := rfl
  unfold kas_descPart at hr
  rw [told_bind] at hr
  obtain ⟨a, b, c, d, e, g, h2⟩ := told_desc (O := O) (f := f) (nrem - (n + 1)) p (n + 1) 0 (by omega) (by omega) hd (fun i a b => by rw [show i = n + 1 - 1 by omega])
  generalize told (byKey O f) (kas_desc (nrem - (n + 1)) p (n + 1) 0) = u at hr a b c d e g h2
  by_cases hq : u.2.2 > 0
  · rw [if_pos hq] at hr
    have ek : ∀ i, KP O f (kas_rev u.1 (u.2.1 - (u.2.2 + 1)) u.2.1) i = KP O f u.1 i := KP_rev_equal (by omega) fun i a b => h2 i (by omega) b
    have t := told_tail3 (O := O) (f := f) (p := kas_rev u.1 (u.2.1 - (u.2.2 + 1)) u.2.1) (n := u.2.1) (nrem := nrem) (by omega) (by omega) (by rw [rev_size]; omega) (fun i j a b => by rw [ek, ek]; exact d i j a b)
    rw [← hr] at t
    obtain ⟨a1, a2, a3, a4, a5⟩ := t
    exact ⟨by omega, a2, (a3.trans (rev_size _ _ _)).trans e, (a4.trans (rev_perm _ _ _)).trans g, a5⟩
  · rw [if_neg hq] at hr
    have t := told_tail3 (O := O) (f := f) (p := u.1) (n := u.2.1) (nrem := nrem) (by omega) (by omega) (by omega) d
    rw [← hr] at t
    obtain ⟨a1, a2, a3, a4, a5⟩ := t
    exact ⟨by omega, a2, a3.trans e, a4.trans g, a5⟩

theorem told_count {p : Array Nat} {nrem : Nat} (h1 : 1 ≤ nrem) (hs : nrem ≤ p.size) :
    let r := told (byKey O f) (kas_count nrem p)
    1 ≤ r.1 ∧ r.1 ≤ nrem ∧ r.2.size = p.size ∧ r.2.Perm p ∧ Up O f r.2 r.1 := by
  intro r
  have hr : r = told (byKey O f) (kas_count nrem p) := rfl
  unfold kas_count at hr
  rw [told_bind] at hr
  obtain ⟨a, b, c, d⟩ := told_asc (O := O) (f := f) (p := p) (nrem - 1) 1
  generalize told (byKey O f) (kas_asc p (nrem - 1) 1) = n at hr a b c d
  have up1 : Up O f p 1 := fun i j hij hj => by rw [show i = j by omega]; exact KeyOrd.kle_refl _
  have up : Up O f p n := up_of_steps n up1 (Nat.le_refl _) a c
  by_cases q : n = nrem
  · rw [if_pos (by simpa using q)] at hr
    rw [hr]
    exact ⟨a, by show n ≤ nrem; omega, rfl, Array.Perm.refl _, up⟩
  · rw [if_neg (by simpa using q)] at hr
    have hlt := d (by omega)
    by_cases q2 : n > 1
    · rw [if_pos q2] at hr
      unfold told at hr
      try dsimp only at hr
      by_cases q3 : byKey O f (p.getD 0 0) (p.getD (n - 1) 0) = true
      · rw [if_pos q3] at hr
        rw [hr]
        exact ⟨a, by show n ≤ nrem; omega, rfl, Array.Perm.refl _, up⟩
      · rw [if_neg q3] at hr
        have all : ∀ k, k < n → KP O f p k = KP O f p (n - 1) := fun k hk =>
          KeyOrd.kle_antisymm (up k (n - 1) (by omega) (by omega)) (KeyOrd.kle_trans (KeyOrd.kle_of_not_klt q3) (up 0 k (Nat.zero_le _) hk))
        have ek : ∀ i, KP O f (kas_rev p 0 n) i = KP O f p i := KP_rev_equal (by omega) fun i _ b => all i b
        have t := told_descPart (O := O) (f := f) (p := kas_rev p 0 n) (n := n) (nrem := nrem) (by omega) (by rw [rev_size]; omega) (fun i j hij hj => by
          rw [ek, ek]
          by_cases e : j = n
          · subst e
            by_cases e2 : i = j
            · subst e2; exact KeyOrd.kle_refl _
            · rw [all i (by omega)]; exact KeyOrd.kle_of_klt hlt
          · rw [all i (by omega), all j (by omega)]; exact KeyOrd.kle_refl _)
        rw [← hr] at t
        obtain ⟨a1, a2, a3, a4, a5⟩ := t
        exact ⟨a1, a2, a3.trans (rev_size _ _ _), a4.trans (rev_perm _ _ _), a5⟩
    · rw [if_neg q2] at hr
      have hn1 : n = 1 := by omega
      subst hn1
      have t := told_descPart (O := O) (f := f) (p := p) (n := 1) (nrem := nrem) (by omega) hs (fun i j hij hj => by
        by_cases e : i = j
        · subst e; exact KeyOrd.kle_refl _
        · rw [show i = 0 by omega, show j = 1 by omega]; exact KeyOrd.kle_of_klt hlt)
      rw [← hr] at t
      exact t

theorem told_place {p : Array Nat} {k : Nat} : ∀ (fu l r : Nat), r - l ≤ fu → l ≤ r → r ≤ k → Up O f p k → (∀ i, i < l → O.kle (KP O f p i) (KP O f p k)) → (∀ i, r ≤ i → i < k → O.klt (KP O f p k) (KP O f p i)) →
    let u := told (byKey O f) (kas_place p k fu l r)
    u ≤ k ∧ (∀ i, i < u → O.kle (KP O f p i) (KP O f p k)) ∧ (∀ i, u ≤ i → i < k → O.klt (KP O f p k) (KP O f p i))
  | 0, l, r, h, hlr, hr, hu, h1, h2 => by
    have : l = r := by omega
    subst this
    exact ⟨hr, h1, h2⟩
  | fu + 1, l, r, h, hlr, hr, hu, h1, h2 => by
    intro u
    have hu' : u = told (byKey O f) (kas_place p k (fu + 1) l r) := rfl
    unfold kas_place at hu'
    by_cases q : l ≥ r
    · rw [if_pos q] at hu'
      have : l = r := by omega
      subst this
      rw [hu']
      exact ⟨hr, h1, h2⟩
    · rw [if_neg q] at hu'
      unfold told at hu'
      try dsimp only at hu'
      by_cases q2 : byKey O f (p.getD k 0) (p.getD ((l + r) / 2) 0) = true
      · rw [if_pos q2] at hu'
        have ih := told_place (p := p) (k := k) fu l ((l + r) / 2) (by omega) (by omega) (by omega) hu h1 (fun i a b => KeyOrd.klt_of_klt_of_kle q2 (hu _ _ a b))
        rw [← hu'] at ih
        exact ih
      · rw [if_neg q2] at hu'
        have ih := told_place (p := p) (k := k) fu ((l + r) / 2 + 1) r (by omega) (by omega) hr hu (fun i a => KeyOrd.kle_trans (hu i ((l + r) / 2) (by omega) (by omega)) (KeyOrd.kle_of_not_klt q2)) h2
        rw [← hu'] at ih
        exact ih

theorem told_bin : ∀ (fu : Nat) (p : Array Nat) (k : Nat), k + fu ≤ p.size → Up O f p k →
    let r := told (byKey O f) (kas_bin fu p k)
    r.size = p.size ∧ r.Perm p ∧ Up O f r (k + fu)
  | 0, p, k, h, hu => ⟨rfl, Array.Perm.refl _, hu⟩
  | fu + 1, p, k, h, hu => by
    intro r
    have hr : r = told (byKey O f) (kas_bin (fu + 1) p k) := rfl
    unfold kas_bin at hr
    rw [told_bind] at hr
    obtain ⟨a, b, c⟩ := told_place (O := O) (f := f) (p := p) (k := k) k 0 k (by omega) (Nat.zero_le _) (Nat.le_refl _) hu (fun i hi => by omega) (fun i h1 h2 => by omega)
    generalize told (byKey O f) (kas_place p k k 0 k) = l at hr a b c
    have eb : ∀ i, KP O f (bubble p k (k - l)) i = if i = l then KP O f p k else if l < i ∧ i ≤ k then KP O f p (i - 1) else KP O f p i := fun i => by
      rw [KP_bubble (by omega) (by omega), show k - (k - l) = l by omega]
    have ih := told_bin fu (bubble p k (k - l)) (k + 1) (by rw [bubble_size]; omega) (by
      intro i j hij hj
      rw [eb, eb]
      by_cases i1 : i = l
      · rw [if_pos i1]
        by_cases j1 : j = l
        · rw [if_pos j1]; exact KeyOrd.kle_refl _
        · rw [if_neg j1, if_pos ⟨by omega, by omega⟩]; exact KeyOrd.kle_of_klt (c _ (by omega) (by omega))
      · rw [if_neg i1]
        by_cases i2 : l < i ∧ i ≤ k
        · rw [if_pos i2, if_neg (by omega), if_pos ⟨by omega, by omega⟩]; exact hu _ _ (by omega) (by omega)
        · rw [if_neg i2]
          by_cases j1 : j = l
          · rw [if_pos j1]; exact b i (by omega)
          · rw [if_neg j1]
            by_cases j2 : l < j ∧ j ≤ k
            · rw [if_pos j2]; exact hu _ _ (by omega) (by omega)
            · rw [if_neg j2]; exact hu _ _ hij (by omega))
    rw [← hr] at ih
    obtain ⟨x, y, z⟩ := ih
    exact ⟨x.trans (bubble_size _ _ _), y.trans (bubble_perm _ _ _), by rw [show k + (fu + 1) = k + 1 + fu by omega]; exact z⟩

theorem told_sort {n : Nat} (h1 : 1 ≤ n) : let r := told (byKey O f) (kas_sort n)
    r.size = n ∧ r.Perm (List.range n).toArray ∧ Up O f r n := by
  intro r
  have hr : r = told (byKey O f) (kas_sort n) := rfl
  unfold kas_sort at hr
  rw [told_bind] at hr
  obtain ⟨a, b, c, d, e⟩ := told_count (O := O) (f := f) (p := (List.range n).toArray) (nrem := n) h1 (by simp)
  generalize told (byKey O f) (kas_count n (List.range n).toArray) = u at hr a b c d e
  have hsz : u.2.size = n := by rw [c]; simp
  by_cases q : u.1 < n
  · rw [if_pos q] at hr
    rw [show max u.1 1 = u.1 by omega] at hr
    have ih := told_bin (O := O) (f := f) (n - u.1) u.2 u.1 (by omega) e
    rw [← hr] at ih
    obtain ⟨x, y, z⟩ := ih
    exact ⟨x.trans hsz, y.trans d, by rw [show u.1 + (n - u.1) = n by omega] at z; exact z⟩
  · rw [if_neg q] at hr
    rw [hr]
    exact ⟨hsz, d, by rw [show n = u.1 by omega]; exact e⟩
end
end Mine
namespace Mine
open PySem PySem.W PyProof.Rows
open AutoSeq1 (wpAny_loadPart')
open MeetsSeq MeetsSeq2 MeetsSeq3 SeqRoads2 SeqAt

section
variable {prog : Program} {w : World} {A : Around} {E : Value → Shared → Prop} {s : Shared}

theorem lt_loop {l b : Addr} {vs us : List Value} {n n2 : Nat} : ∀ (k i : Nat) (ns ms : List Int) (A : Around) (R : Result → Shared → Prop) (s : Shared), vs.length - i = k → i ≤ vs.length → i ≤ us.length → IntsAre (vs.drop i) ns → IntsAre (us.drop i) ms →
    s.heap.get? l = some { cls := .type "list", data := .seq vs.toArray n } → s.heap.get? b = some { cls := .type "list", data := .seq us.toArray n2 } → R (.ok (.ret (.bool (decide (ns < ms))))) s →
    codeAny (model prog w) A (.builtin "list.__eq__.loop" ⟨[.ref l, .ref b, rawInt i, rawInt 0], []⟩) R s := by
  intro k
  induction k with
  | zero =>
    intro i ns ms A R s hk hiv hiu hi hj hl hb h
    have hn : vs.drop i = [] := by simp; omega
    rw [hn] at hi
    cases hi
    refine codeAny_builtin entry_eq_loop ?_
    rw [Around.under_plainId plain_eq_loop]
    obtain ⟨hp, g, d, tk, os⟩ := s
    wp_walk using wpAny_loadPart' hl, wpAny_loadPart' hb
    have h1 : vs.toArray[((i : Nat) : Int).toNat]? = none := by simp; omega
    rw [h1]
    wp_walk using wpAny_loadPart' hl, wpAny_loadPart' hb
    show R (.ok (.ret (.bool (decide (vs.toArray.size < us.toArray.size))))) _
    have e : decide (([] : List Int) < ms) = decide (vs.toArray.size < us.toArray.size) := by
      rw [decide_eq_decide, List.size_toArray, List.size_toArray]
      have hlen := hj.length
      rw [List.length_drop] at hlen
      cases ms with
      | nil => simp at hlen ⊢; omega
      | cons a r => simp at hlen ⊢; omega
    rw [← e]
    exact h
  | succ k ih =>
    intro i ns ms A R s hk hiv hiu hi hj hl hb h
    have hlt : i < vs.length := by omega
    have hd : vs.drop i = vs[i] :: vs.drop (i + 1) := List.drop_eq_getElem_cons hlt
    rw [hd] at hi
    generalize hx : vs[i] = x at hi
    have h1 : vs.toArray[((i : Nat) : Int).toNat]? = some x := by simp [hlt, hx]
    cases hi with
    | cons a t hi' =>
      rename_i ns'
      refine codeAny_builtin entry_eq_loop ?_
      rw [Around.under_plainId plain_eq_loop]
      obtain ⟨hp, g, d, tk, os⟩ := s
      wp_walk using wpAny_loadPart' hl, wpAny_loadPart' hb
      rw [h1]
      rcases Nat.lt_or_ge i us.length with hlt2 | hge
      · have hd2 : us.drop i = us[i] :: us.drop (i + 1) := List.drop_eq_getElem_cons hlt2
        rw [hd2] at hj
        generalize hy : us[i] = y at hj
        have h2 : us.toArray[((i : Nat) : Int).toNat]? = some y := by simp [hlt2, hy]
        rw [h2]
        cases hj with
        | cons c u hj' =>
          rename_i ms'
          have hc : ((i : Int) + 1) = ((i + 1 : Nat) : Int) := by push_cast; rfl
          dsimp only
          refine wpAny_bind (wpAny_eqBool_int ?_)
          by_cases hac : a = c
          · subst hac
            rw [beq_self_eq_true]
            wp_walk
            rw [hc]
            refine ⟨plainId_quiet plain_eq_loop _, ih (i + 1) ns' ms' A R _ (by omega) hlt hlt2 hi' hj' hl hb ?_⟩
            have e : decide (ns' < ms') = decide (a :: ns' < a :: ms') := by rw [decide_eq_decide, List.cons_lt_cons_iff]; simp
            rw [e]; exact h
          · rw [beq_false_of_ne hac]
            wp_walk using wpAny_loadPart' hl, wpAny_loadPart' hb
            rw [h1, h2]
            refine wpAny_bind (wpAny_richCompare_same (typeIs_int _ _ _) (typeIs_int _ _ _) slot_int_lt (call_int_lt ⟨by simp, ?_⟩))
            have e : decide (a < c) = decide (a :: ns' < c :: ms') := by rw [decide_eq_decide, List.cons_lt_cons_iff]; simp [hac]
            rw [e]
            exact wpAny_pure h
      · have h2 : us.toArray[((i : Nat) : Int).toNat]? = none := by simp; omega
        rw [h2]
        wp_walk using wpAny_loadPart' hl, wpAny_loadPart' hb
        show R (.ok (.ret (.bool (decide (vs.toArray.size < us.toArray.size))))) _
        have hms : ms = [] := by
          have hlen := hj.length
          rw [List.length_drop] at hlen
          cases ms with
          | nil => rfl
          | cons a r => simp at hlen; omega
        subst hms
        have e : decide (a :: ns' < []) = decide (vs.toArray.size < us.toArray.size) := by
          rw [decide_eq_decide, List.size_toArray, List.size_toArray]
          simp; omega
        rw [← e]
        exact h
end
end Mine
namespace Mine
open PySem PySem.W PyProof.Rows

/-- every place that the tree asks for is below n -/
def InR {α : Type} (n : Nat) (post : α → Prop) : KasT α → Prop
  | .ret a => post a
  | .ask i j k => i < n ∧ j < n ∧ ∀ b, InR n post (k b)
theorem InR.bind {α β : Type} {n : Nat} {P : α → Prop} {Q : β → Prop} {f : α → KasT β} (hf : ∀ a, P a → InR n Q (f a)) : ∀ {t : KasT α}, InR n P t → InR n Q (t.bind f)
  | .ret a, h => hf a h
  | .ask i j k, h => ⟨h.1, h.2.1, fun b => InR.bind hf (h.2.2 b)⟩
theorem InR.mono {α : Type} {n : Nat} {P Q : α → Prop} (hpq : ∀ a, P a → Q a) : ∀ {t : KasT α}, InR n P t → InR n Q t
  | .ret a, h => hpq a h
  | .ask i j k, h => ⟨h.1, h.2.1, fun b => (h.2.2 b).mono hpq⟩
theorem InR.wp {α : Type} {n : Nat} {P : α → Prop} {c : Nat → Nat → Bool} {cmp : Nat → Nat → (Bool → Shared → Prop) → Shared → Prop} {s : Shared} {Q : α → Shared → Prop} (hc : ∀ i j (C : Bool → Shared → Prop), i < n → j < n → C (c i j) s → cmp i j C s) :
    ∀ {t : KasT α}, InR n P t → Q (told c t) s → t.kasWp cmp Q s
  | .ret a, _, h => h
  | .ask i j k, hr, h => hc i j _ hr.1 hr.2.1 (InR.wp hc (hr.2.2 _) h)

def Low (n : Nat) (p : Array Nat) : Prop := ∀ i, p.getD i 0 < n
theorem Low.perm {n : Nat} (hn : 0 < n) {p q : Array Nat} (h : Low n p) (hp : q.Perm p) : Low n q := by
  intro i
  rw [Array.getD_eq_getD_getElem?]
  cases e : q[i]? with
  | none => exact hn
  | some x =>
    have hm : x ∈ q := Array.mem_of_getElem? e
    have hm' : x ∈ p := (hp.mem_iff).mp hm
    obtain ⟨j, hj, e'⟩ := Array.mem_iff_getElem.mp hm'
    have := h j
    rw [Array.getD_eq_getD_getElem?, Array.getElem?_eq_getElem hj, e'] at this
    exact this

section
variable {n : Nat}
theorem in_asc {p : Array Nat} (hp : Low n p) : ∀ (k m : Nat), InR n (fun _ => True) (kas_asc p k m)
  | 0, m => trivial
  | k + 1, m => ⟨hp _, hp _, fun b => by
    dsimp only
    split
    · exact trivial
    · exact in_asc hp k (m + 1)⟩
theorem in_desc (hn : 0 < n) : ∀ (k : Nat) (p : Array Nat) (m q : Nat), Low n p → InR n (fun r => Low n r.1) (kas_desc k p m q)
  | 0, p, m, q, hp => hp
  | k + 1, p, m, q, hp => ⟨hp _, hp _, fun b => by
    dsimp only
    split
    · split
      · exact in_desc hn k _ _ _ (hp.perm hn (rev_perm _ _ _))
      · exact in_desc hn k _ _ _ hp
    · exact ⟨hp _, hp _, fun b => by
        dsimp only
        split
        · exact hp
        · exact in_desc hn k _ _ _ hp⟩⟩
theorem in_tail3 (hn : 0 < n) {p : Array Nat} {m r : Nat} (hp : Low n p) : InR n (fun r => Low n r.2) (kas_tail3 m r p) := by
  unfold kas_tail3
  refine InR.bind (P := fun _ => True) (fun a _ => ?_) (in_asc (hp.perm hn (rev_perm _ _ _)) _ _)
  exact hp.perm hn (rev_perm p 0 m)
theorem in_descPart (hn : 0 < n) {p : Array Nat} {m r : Nat} (hp : Low n p) : InR n (fun r => Low n r.2) (kas_descPart m r p) := by
  unfold kas_descPart
  refine InR.bind (fun a ha => ?_) (in_desc hn _ _ _ _ hp)
  split
  · exact in_tail3 hn (ha.perm hn (rev_perm _ _ _))
  · exact in_tail3 hn ha
theorem in_count (hn : 0 < n) {p : Array Nat} {r : Nat} (hp : Low n p) : InR n (fun r => Low n r.2) (kas_count r p) := by
  unfold kas_count
  refine InR.bind (fun a _ => ?_) (in_asc hp _ _)
  split
  · exact hp
  · split
    · refine ⟨hp _, hp _, fun b => ?_⟩
      dsimp only
      split
      · exact hp
      · exact in_descPart hn (hp.perm hn (rev_perm _ _ _))
    · exact in_descPart hn hp
theorem in_place {p : Array Nat} {k : Nat} (hp : Low n p) : ∀ (f l r : Nat), InR n (fun _ => True) (kas_place p k f l r)
  | 0, l, r => trivial
  | f + 1, l, r => by
    unfold kas_place
    split
    · exact trivial
    · refine ⟨hp _, hp _, fun b => ?_⟩
      dsimp only
      split
      · exact in_place hp f _ _
      · exact in_place hp f _ _
theorem in_bin (hn : 0 < n) : ∀ (f : Nat) (p : Array Nat) (k : Nat), Low n p → InR n (Low n) (kas_bin f p k)
  | 0, p, k, hp => hp
  | f + 1, p, k, hp => by
    unfold kas_bin
    exact InR.bind (fun l _ => in_bin hn f _ _ (hp.perm hn (bubble_perm _ _ _))) (in_place hp _ _ _)
theorem in_sort (hn : 0 < n) : InR n (Low n) (kas_sort n) := by
  unfold kas_sort
  have h0 : Low n (List.toArray (List.range n)) := by
    intro i
    rw [Array.getD_eq_getD_getElem?]
    by_cases h : i < n
    · simp [h]
    · simp [Nat.le_of_not_lt h, hn]
  refine InR.bind (fun a ha => ?_) (in_count hn h0)
  split
  · exact in_bin hn _ _ _ ha
  · exact ha
end

section
variable {prog : Program} {w : World} {A : Around} {E : Value → Shared → Prop} {s : Shared}

theorem call_list_lt {l b : Addr} {vs us : List Value} {ns ms : List Int} {n n2 : Nat} {Q : Value → Shared → Prop} (hl : s.heap.get? l = some { cls := .type "list", data := .seq vs.toArray n }) (hb : s.heap.get? b = some { cls := .type "list", data := .seq us.toArray n2 })
    (hi : IntsAre vs ns) (hj : IntsAre us ms) (h : Q (.bool (decide (ns < ms))) s) : wpAny (model prog w) A (call (.builtin "list.__lt__") [.ref l, .ref b]) Q E s := by
  refine wpAny_call (codeAny_call_builtin PySem.F.slot_list_lt.plain PySem.F.entry_list_lt (PySem.F.slot_list_lt.check _ _ _ _ _ _ _ _ ⟨_, hl, rfl⟩ (PySem.F.args_list_lt_2 _ _) ?_))
  show wpAny _ _ (do
    if !(← isInstance (.ref b) (.type "list")) then return ← ret .notImplemented
    again (.builtin "list.__eq__.loop" ⟨[.ref l, .ref b, rawInt 0, rawInt 0], []⟩)) _ _ _
  refine wpAny_bind (wpAny_isInstance (T := "list") (b := true) ⟨_, hb, rfl⟩ (by rw [isSubtype_type]; kernel_rfl) ?_)
  simp only [Bool.not_true, Bool.false_eq_true, if_false]
  exact wpAny_pure ⟨plainId_quiet MeetsSeq3.plain_eq_loop _, lt_loop _ 0 ns ms _ _ s rfl (Nat.zero_le _) (Nat.zero_le _) hi hj hl hb h⟩

theorem keyLt_list {l b : Addr} {vs us : List Value} {ns ms : List Int} {n n2 : Nat} {Q : Bool → Shared → Prop} (hu : A.units < cLine) (hl : s.heap.get? l = some { cls := .type "list", data := .seq vs.toArray n }) (hb : s.heap.get? b = some { cls := .type "list", data := .seq us.toArray n2 })
    (hi : IntsAre vs ns) (hj : IntsAre us ms) (h : Q (decide (ns < ms)) s) : wpAny (model prog w) A (keyLt' oneType' (.ref l) (.ref b)) Q E s := by
  rw [keyLt'_oneType, oneLt'_eq]
  simp only [if_true]
  refine wpAny_bind (wpAny_cRoomFor hu ?_)
  refine wpAny_bind (wpAny_callSpecialIfBound?_slot (T := "list") ⟨_, hl, rfl⟩ PySem.F.slot_list_lt (call_list_lt hl hb hi hj ?_))
  exact wpAny_truthy_bool h

theorem sort_told (O : KeyOrd) (f : Nat → O.α) {a : Addr} {vs : List Value} {n : Nat} {P : PySem.Fin → Shared → Prop} (ho : s.heap.get? a = some (seqObj "list" vs.toArray n)) (h2 : 2 ≤ vs.length) (h64 : vs.length < 64)
    (kind : ∀ (s' : Shared) (Q : SortKind → Shared → Prop) (E : Value → Shared → Prop), (∀ b o, b ≠ a → s.heap.get? b = some o → s'.heap.get? b = some o) → Q oneType' s' → wpAny (model prog w) A (keyKind' vs.toArray) Q E s')
    (ask : ∀ (s' : Shared) i j (C : Bool → Shared → Prop) (E : Value → Shared → Prop), (∀ b o, b ≠ a → s.heap.get? b = some o → s'.heap.get? b = some o) → i < vs.length → j < vs.length → C (byKey O f i j) s' →
      wpAny (model prog w) A (keyLt' oneType' (vs.getD i .none) (vs.getD j .none)) C E s')
    (h : ∀ p : Array Nat, p.size = vs.length → p.Perm (List.range vs.length).toArray → Up O f p vs.length → P (.done (.ret .none)) { s with heap := sortedHeap s.heap a vs (List.toArray (p.toList.map fun i => vs.getD i .none)) }) :
    wpAny (model prog w) A (Builtin.«list.sort» ⟨[.ref a], []⟩) P E s := by
  rw [list_sort_plain]
  have ha : a < s.heap.objs.size := Heap.lt_size ho
  refine wpAny_bind (listItems_at ho rfl ?_)
  refine wpAny_bind (listUpdate_at ho rfl ?_ (by rw [List.size_toArray, sizeLine_eq]; omega) (Nat.zero_le _))
  obtain ⟨e1, ho1⟩ : ∃ e1, (s.heap.update a (Obj.mapSeq fun _ => (#[] : Array Value))).get? a = some (seqObj "list" #[] e1) := ⟨_, get?_update_seq ho fun _ => #[]⟩
  refine wpAny_bind (seqEpoch_at ho1 rfl ?_)
  refine wpAny_bind (wpAny_newTuple ?_ (by show vs.length ≤ _; rw [sizeLine_eq]; omega))
  refine wpAny_bind (wpAny_newList ?_ (Nat.zero_le _))
  refine wpAny_holding ?_
  have ho6 : (((s.heap.update a (Obj.mapSeq fun _ => (#[] : Array Value))).push (seqObj "tuple" vs.toArray 0)).push (seqObj "list" #[] 0)).get? a = some (seqObj "list" #[] e1) :=
    Heap.get?_push_of_some _ (Heap.get?_push_of_some _ ho1)
  have old : ∀ b o, b ≠ a → s.heap.get? b = some o → (((s.heap.update a (Obj.mapSeq fun _ => (#[] : Array Value))).push (seqObj "tuple" vs.toArray 0)).push (seqObj "list" #[] 0)).get? b = some o := fun b o hb e =>
    Heap.get?_push_of_some _ (Heap.get?_push_of_some _ ((Heap.get?_update_ne _ _ _ _ hb).trans e))
  show wpAny (model prog w) A _ P E { s with heap := ((s.heap.update a (Obj.mapSeq fun _ => (#[] : Array Value))).push (seqObj "tuple" vs.toArray 0)).push (seqObj "list" #[] 0) }
  dsimp only
  have hn2 : ¬ vs.toArray.size < 2 := by rw [List.size_toArray]; omega
  rw [if_neg hn2, if_neg hn2]
  refine wpAny_bind (kind _ _ _ old ?_)
  have est : SortSt.mk' oneType' (vs.toArray.zip vs.toArray) #[] 7 none = kas_st oneType' (pairsOf vs) (List.toArray (List.range vs.length)) := by
    have e := kas_range (pairsOf vs)
    rw [pairsOf_size] at e
    show SortSt.mk' oneType' (pairsOf vs) #[] 7 none = SortSt.mk' oneType' ((List.toArray (List.range vs.length)).map (kas_item (pairsOf vs))) #[] 7 none
    rw [e]
  have run := kas_runs (E := E) (prog := prog) (w := w) (A := A) (κ := oneType') (it := pairsOf vs) (s := { s with heap := ((s.heap.update a (Obj.mapSeq fun _ => (#[] : Array Value))).push (seqObj "tuple" vs.toArray 0)).push (seqObj "list" #[] 0) })
    (Q := fun _ st' s' => ∃ p : Array Nat, p.size = vs.length ∧ arrOf st' = p.map (kas_item (pairsOf vs)) ∧ failedOf st' = none ∧ p = told (byKey O f) (kas_sort vs.length) ∧ s' = { s with heap := ((s.heap.update a (Obj.mapSeq fun _ => (#[] : Array Value))).push (seqObj "tuple" vs.toArray 0)).push (seqObj "list" #[] 0) })
    (G := fun p s' => p = told (byKey O f) (kas_sort vs.length) ∧ s' = { s with heap := ((s.heap.update a (Obj.mapSeq fun _ => (#[] : Array Value))).push (seqObj "tuple" vs.toArray 0)).push (seqObj "list" #[] 0) })
    h2 h64 (fun p' st' s' a1 a2 a3 a4 => ⟨p', a1, a2, a3, a4⟩) (InR.wp (c := byKey O f) (fun i j C hi hj hC => by
      unfold kas_cmp
      rw [kas_item_eq, kas_item_eq]
      exact ask _ i j C _ old hi hj hC) (in_sort (by omega)) ⟨rfl, rfl⟩)
  rw [← est] at run
  refine wpAny_bind (wpAny_mono run ?_ fun _ _ e => e)
  rintro ⟨⟨⟩, st'⟩ s' ⟨p, hp, har, hf, hpt, rfl⟩
  dsimp only
  have hout : (arrOf st').map (·.2) = List.toArray (p.toList.map fun i => vs.getD i Value.none) := by
    apply Array.toList_inj.mp
    rw [har, Array.map_map, Array.toList_map]
    exact List.map_congr_left fun i _ => by show (kas_item (pairsOf vs) i).2 = _; rw [kas_item_eq]
  have hsz : (List.toArray (p.toList.map fun i => vs.getD i Value.none)).size = vs.length := by rw [List.size_toArray, List.length_map, Array.length_toList, hp]
  rw [hout]
  refine wpAny_bind (seqEpoch_at ho6 rfl ?_)
  refine wpAny_bind (listUpdate_at ho6 rfl ?_ (Nat.zero_le _) (Nat.le_trans (Nat.le_of_eq hsz) (by rw [sizeLine_eq]; omega)))
  rw [hf]
  simp only [bne_self_eq_false, Bool.false_eq_true, if_false]
  obtain ⟨t1, t2, t3⟩ := told_sort (O := O) (f := f) (n := vs.length) (by omega)
  rw [← hpt] at t1 t2 t3
  exact wpAny_pure (h p hp t2 t3)

theorem sorted_told (O : KeyOrd) (f : Nat → O.α) {l : Addr} {vs : List Value} {Q : Value → Shared → Prop} (hl : s.heap.IsList l vs.toArray) (h2 : 2 ≤ vs.length) (h64 : vs.length < 64)
    (kind : ∀ (A' : Around) (s' : Shared) (Q : SortKind → Shared → Prop) (E : Value → Shared → Prop), Sub s.heap s'.heap → Q oneType' s' → wpAny (model prog w) A' (keyKind' vs.toArray) Q E s')
    (ask : ∀ (s' : Shared) i j (C : Bool → Shared → Prop) (E : Value → Shared → Prop), Sub s.heap s'.heap → i < vs.length → j < vs.length → C (byKey O f i j) s' →
      wpAny (model prog w) A.in1.in1 (keyLt' oneType' (vs.getD i .none) (vs.getD j .none)) C E s')
    (h : ∀ D s' (p : List Nat), Kp s s' → s.heap.get? D = none → LL s'.heap D (p.map fun i => vs.getD i .none) → p.Perm (List.range vs.length) → (p.map f).Pairwise O.kle → Q (.ref D) s') :
    wpAny (model prog w) A (call (.builtin "sorted") [.ref l]) Q E s := by
  refine Calls.call_function_entry kind_sorted plain_sorted entry_sorted (args_sorted1 _) ?_
  unfold Builtin.«sorted»
  refine wpAny_bind (m := checkCount "sorted" 1 1 _) (wpAny_pure ?_)
  refine wpAny_bind (collect_list hl ?_ (by rw [sizeLine_eq]; omega))
  refine wpAny_bind (wpAny_newList ?_ (by rw [sizeLine_eq]; omega))
  have hsz : ((s.heap.push (seqObj "list" #[] 0)).update s.heap.objs.size (Obj.mapSeq (· ++ vs.toArray))).objs.size = s.heap.objs.size + 1 := by
    rw [Heap.size_update, size_push']
  have hoL : (((s.heap.push (seqObj "list" #[] 0)).update s.heap.objs.size (Obj.mapSeq (· ++ vs.toArray))).push (seqObj "list" vs.toArray 0)).get? (s.heap.objs.size + 1) = some (seqObj "list" vs.toArray 0) := by
    rw [← hsz]; exact Heap.get?_push_size _ rfl
  have keep : ∀ b o, s.heap.get? b = some o → b ≠ s.heap.objs.size + 1 ∧ (((s.heap.push (seqObj "list" #[] 0)).update s.heap.objs.size (Obj.mapSeq (· ++ vs.toArray))).push (seqObj "list" vs.toArray 0)).get? b = some o := fun b o q => by
    have hlt : b < s.heap.objs.size := Heap.lt_size q
    refine ⟨Nat.ne_of_lt (Nat.lt_succ_of_lt hlt), ?_⟩
    rw [Heap.get?_push_ne _ _ _ (by rw [hsz]; exact Nat.ne_of_lt (Nat.lt_succ_of_lt hlt)), Heap.get?_update_ne _ _ _ _ (Nat.ne_of_lt hlt), Heap.get?_push_ne _ _ _ (Nat.ne_of_lt hlt)]
    exact q
  show wpAny _ _ _ _ _ { s with heap := ((s.heap.push (seqObj "list" #[] 0)).update s.heap.objs.size (Obj.mapSeq (· ++ vs.toArray))).push (seqObj "list" vs.toArray 0) }
  rw [hsz]
  refine wpAny_bind (wpAny_holding (wpAny_call_entry slot_list_sort ⟨_, hoL, rfl⟩ entry_list_sort (sort_told O f (s := { s with heap := ((s.heap.push (seqObj "list" #[] 0)).update s.heap.objs.size (Obj.mapSeq (· ++ vs.toArray))).push (seqObj "list" vs.toArray 0) }) hoL h2 h64
    (fun s' Q E hk hq => kind _ s' Q E (fun b o e => hk b o (keep b o e).1 (keep b o e).2) hq) (fun s' i j C E hk hi hj hC => ask s' i j C E (fun b o e => hk b o (keep b o e).1 (keep b o e).2) hi hj hC) fun p hp hpp hup => ⟨_, rfl, ?_⟩) (args_list_sort _)))
  refine wpAny_pure ⟨_, rfl, ?_⟩
  obtain ⟨e, he⟩ := sortedAll_at s.heap vs (List.toArray (p.toList.map fun i => vs.getD i .none))
  refine h _ { s with heap := sortedAll s.heap vs (List.toArray (p.toList.map fun i => vs.getD i .none)) } p.toList (Kp.heap (s := s) (fun b o q => sortedAll_old q) (Nat.le_refl _)) (Heap.get?_none_of_le (Nat.le_succ _)) ⟨e, he⟩ ?_ ?_
  · have := Array.perm_iff_toList_perm.mp hpp
    simpa using this
  · rw [List.pairwise_iff_getElem]
    intro i j hi hj hij
    simp only [List.length_map, Array.length_toList] at hi hj
    have := hup i j (Nat.le_of_lt hij) (by omega)
    unfold KP at this
    simpa [Array.getD, hi, hj] using this
end
end Mine
namespace Mine
open PySem PySem.W PyProof.Rows

def intOrd : KeyOrd where
  α := Int
  blt a b := decide (a < b)
  irrefl a := by simp
  trans a b c h1 h2 := by simp only [decide_eq_true_eq] at *; omega
  negTrans a b c h := by simp only [decide_eq_true_eq] at *; omega
  total a b h1 h2 := by simp only [decide_eq_false_iff_not] at *; omega
def listOrd : KeyOrd where
  α := List Int
  blt a b := decide (a < b)
  irrefl a := by simp only [decide_eq_false_iff_not]; exact List.lt_irrefl a
  trans a b c h1 h2 := by simp only [decide_eq_true_eq] at *; exact List.lt_trans h1 h2
  negTrans a b c h := by
    simp only [decide_eq_true_eq] at *
    by_cases hab : a < b
    · exact .inl hab
    · exact .inr (List.lt_of_le_of_lt (List.not_lt.mp hab) h)
  total a b h1 h2 := by simp only [decide_eq_false_iff_not] at *; exact List.le_antisymm (List.not_lt.mp h2) (List.not_lt.mp h1)

theorem ints_get {vs : List Value} {ns : List Int} (h : IntsAre vs ns) {i : Nat} (hi : i < vs.length) : ∃ t, vs.getD i .none = .int (ns.getD i 0) t := by
  have e : vs[i]? = some vs[i] := List.getElem?_eq_getElem hi
  obtain ⟨n, t, e1, e2⟩ := ints_at h e
  refine ⟨t, ?_⟩
  rw [List.getD_eq_getElem?_getD, List.getD_eq_getElem?_getD, e, e1]
  exact e2
theorem ints_perm {vs : List Value} {ns : List Int} (h : IntsAre vs ns) : ∀ p : List Nat, (∀ i ∈ p, i < vs.length) → IntsAre (p.map fun i => vs.getD i .none) (p.map fun i => ns.getD i 0)
  | [], _ => .nil
  | i :: r, hp => by
    obtain ⟨t, e⟩ := ints_get h (hp i (.head _))
    rw [List.map_cons, List.map_cons, e]
    exact .cons _ t (ints_perm h r fun j hj => hp j (.tail _ hj))
theorem perm_getD {α : Type} (l : List α) (d : α) {p : List Nat} (hp : p.Perm (List.range l.length)) : (p.map fun i => l.getD i d).Perm l := by
  have e : (List.range l.length).map (fun i => l.getD i d) = l := by
    apply List.ext_getElem (by simp)
    intro i h1 h2
    simp [h2]
  exact (hp.map _).trans (by rw [e])

section
variable {prog : Program} {w : World} {A : Around} {E : Value → Shared → Prop} {s : Shared}

theorem kind_ints {vs : List Value} {ns : List Int} (hI : IntsAre vs ns) (h2 : 2 ≤ vs.length) {Q : SortKind → Shared → Prop} (hq : Q oneType' s) : wpAny (model prog w) A (keyKind' vs.toArray) Q E s := by
  obtain ⟨v₁, v₂, rest, rfl⟩ : ∃ v₁ v₂ rest, vs = v₁ :: v₂ :: rest := by
    match vs, h2 with
    | v₁ :: v₂ :: rest, _ => exact ⟨v₁, v₂, rest, rfl⟩
  rw [keyKind_ints hI]
  exact wpAny_pure hq

theorem sorted_intsV {l : Addr} {vs : List Value} {ns : List Int} {Q : Value → Shared → Prop} (hl : s.heap.IsList l vs.toArray) (hI : IntsAre vs ns) (h2 : 2 ≤ vs.length) (h64 : vs.length < 64)
    (h : ∀ D s' us ms, Kp s s' → s.heap.get? D = none → LL s'.heap D us → IntsAre us ms → ms.Perm ns → ms.Pairwise (· ≤ ·) → (∀ v ∈ us, v ∈ vs) → Q (.ref D) s') :
    wpAny (model prog w) A (call (.builtin "sorted") [.ref l]) Q E s := by
  refine sorted_told intOrd (fun i => ns.getD i 0) hl h2 h64 (fun A' s' Q E _ hq => ?_) (fun s' i j C E _ hi hj hC => ?_) fun D s' p K hD hL hp hs => ?_
  · exact kind_ints hI h2 hq
  · obtain ⟨t, e⟩ := ints_get hI hi
    obtain ⟨u, e'⟩ := ints_get hI hj
    rw [e, e', keyLt'_oneType]
    exact oneLt_int hC
  · have hlt : ∀ i ∈ p, i < vs.length := fun i hi => by simpa using hp.mem_iff.mp hi
    have hlen : ns.length = vs.length := hI.length.symm
    refine h D s' _ _ K hD hL (ints_perm hI p hlt) (perm_getD ns 0 (hlen ▸ hp)) ?_ fun v hv => ?_
    · refine List.Pairwise.imp ?_ hs
      intro a b hab
      have : decide (b < a) = false := hab
      simp only [decide_eq_false_iff_not] at this
      show a ≤ b
      omega
    · obtain ⟨i, hi, rfl⟩ := List.mem_map.mp hv
      rw [List.getD_eq_getElem?_getD, List.getElem?_eq_getElem (hlt i hi)]
      exact List.getElem_mem _

theorem kind_lists {vs : List Value} (h2 : 2 ≤ vs.length) {Q : SortKind → Shared → Prop} (hT : ∀ v ∈ vs, ∃ a o, v = .ref a ∧ s.heap.get? a = some o ∧ o.cls = .type "list") (hq : Q oneType' s) : wpAny (model prog w) A (keyKind' vs.toArray) Q E s := by
  refine kas_kind (T := .type "list") h2 (fun v hv => ?_) (by decide +kernel) (by decide +kernel) hq
  obtain ⟨a, o, rfl, ho, hc⟩ := hT v hv
  rw [← hc]
  exact (Looks.ld (part := none) ho).andThen .now

theorem sorted_listsV {l : Addr} {rs : List Addr} {rows : List (List Int)} {Q : Value → Shared → Prop} (hl : s.heap.IsList l (rs.map Value.ref).toArray) (hr : ∀ i, i < rs.length → ∃ vs, LL s.heap (rs.getD i 0) vs ∧ IntsAre vs (rows.getD i []))
    (h2 : 2 ≤ rs.length) (h64 : rs.length < 64) (hu : A.in1.in1.units < cLine)
    (h : ∀ D s' (p : List Nat), Kp s s' → s.heap.get? D = none → LL s'.heap D ((p.map fun i => rs.getD i 0).map Value.ref) → p.Perm (List.range rs.length) → (p.map fun i => rows.getD i []).Pairwise (· ≤ ·) → Q (.ref D) s') :
    wpAny (model prog w) A (call (.builtin "sorted") [.ref l]) Q E s := by
  have hlen : (rs.map Value.ref).length = rs.length := List.length_map _
  have hget : ∀ i, i < rs.length → (rs.map Value.ref).getD i .none = .ref (rs.getD i 0) := fun i hi => by
    rw [List.getD_eq_getElem?_getD, List.getElem?_map, List.getD_eq_getElem?_getD, List.getElem?_eq_getElem hi]
    rfl
  refine sorted_told listOrd (fun i => rows.getD i []) hl (by omega) (by omega) (fun A' s' Q E k hq => ?_) (fun s' i j C E k hi hj hC => ?_) fun D s' p K hD hL hp hs => ?_
  · refine kind_lists (by omega) (fun v hv => ?_) hq
    obtain ⟨a, ha, rfl⟩ := List.mem_map.mp hv
    obtain ⟨i, hi, e⟩ := List.mem_iff_getElem.mp ha
    obtain ⟨us, ⟨n, hus⟩, _⟩ := hr i hi
    rw [List.getD_eq_getElem?_getD, List.getElem?_eq_getElem hi, e] at hus
    exact ⟨a, _, rfl, k _ _ hus, rfl⟩
  · rw [hlen] at hi hj
    obtain ⟨us, ⟨n, hus⟩, hi1⟩ := hr i hi
    obtain ⟨us', ⟨n', hus'⟩, hj1⟩ := hr j hj
    rw [hget i hi, hget j hj]
    exact keyLt_list hu (k _ _ hus) (k _ _ hus') hi1 hj1 hC
  · rw [hlen] at hp
    refine h D s' p K hD ?_ hp ?_
    · rw [List.map_map]
      rw [List.map_congr_left (g := fun i => Value.ref (rs.getD i 0)) (fun i hi => hget i (by simpa using hp.mem_iff.mp hi))] at hL
      exact hL
    · refine List.Pairwise.imp ?_ hs
      intro a b hab
      have : decide (b < a) = false := hab
      simp only [decide_eq_false_iff_not] at this
      exact List.not_lt.mp this
end
end Mine
namespace Mine
open PySem PySem.Builtin PySem.Builtin.Str

/-- both signs of an end made a feed -/
def r2 : List Nat → List Nat
  | [] => []
  | [c] => [c]
  | c :: d :: r => if c = 13 ∧ d = 10 then 10 :: r2 r else c :: r2 (d :: r)
def fed (c : Nat) : Nat := if c = 13 then 10 else c
/-- every end made a feed -/
def one (t : List Nat) : List Nat := (r2 t).map fed
def stuffN : Bool → List Nat → List Nat
  | _, [] => []
  | b, c :: r => (if c = 10 then [13, 10] else if b && c == 46 then [46, 46] else [c]) ++ stuffN (c == 10) r

theorem crlfs_true {c : Nat} {r : List Nat} (h : c ≠ 10) : crlfs true (c :: r) = crlfs false (c :: r) := by
  rw [crlfs, crlfs, if_neg h, if_neg h]

theorem sent_eq (n : Nat) : ∀ (t : List Nat) (b : Bool), t.length = n → stuff b (crlfs false t) = stuffN b (one t) := by
  induction n using Nat.strongRecOn with
  | _ n ih =>
    intro t b hl
    have plain : ∀ (c : Nat) (X Y : List Nat), c ≠ 10 → c ≠ 13 → stuff (c == 10) X = stuffN (c == 10) Y → stuff b (c :: X) = stuffN b (c :: Y) := by
      intro c X Y h1 h2 h
      rw [stuff_cons, stuffN, h, if_neg h1]
    have ends : ∀ (X Y : List Nat), stuff true X = stuffN true Y → stuff b (13 :: 10 :: X) = stuffN b (10 :: Y) := by
      intro X Y h
      rw [stuff_cons, stuff_cons, stuffN, if_pos rfl]
      show (if (b && (13 == 46)) = true then [46, 46] else [13]) ++ ((if (((13 : Nat) == 10) && (10 == 46)) = true then [46, 46] else [10]) ++ stuff true X) = [13, 10] ++ stuffN true Y
      rw [h, show ((13 : Nat) == 46) = false from rfl, Bool.and_false]
      rfl
    match t, hl with
    | [], _ => rfl
    | [c], hl =>
      by_cases h10 : c = 10
      · subst h10; exact ends [] [] rfl
      · by_cases h13 : c = 13
        · subst h13
          exact ends [] [] rfl
        · have e1 : crlfs false [c] = [c] := by rw [crlfs, if_neg h10, if_neg h13]; rfl
          have e2 : one [c] = [c] := by show [fed c] = [c]; unfold fed; rw [if_neg h13]
          rw [e1, e2]
          exact plain c [] [] h10 h13 rfl
    | c :: d :: r, hl =>
      by_cases hc : c = 13 ∧ d = 10
      · obtain ⟨rfl, rfl⟩ := hc
        have e1 : crlfs false (13 :: 10 :: r) = 13 :: 10 :: crlfs false r := rfl
        have e2 : one (13 :: 10 :: r) = 10 :: one r := by unfold one; rw [r2, if_pos ⟨rfl, rfl⟩]; rfl
        rw [e1, e2]
        exact ends _ _ (ih r.length (by rw [← hl]; simp; omega) r true rfl)
      · have e2 : one (c :: d :: r) = fed c :: one (d :: r) := by unfold one; rw [r2, if_neg hc]; rfl
        have ihd := fun b => ih (d :: r).length (by rw [← hl]; simp) (d :: r) b rfl
        by_cases h10 : c = 10
        · subst h10
          have e1 : crlfs false (10 :: d :: r) = 13 :: 10 :: crlfs false (d :: r) := rfl
          rw [e1, e2]
          exact ends _ _ (ihd true)
        · by_cases h13 : c = 13
          · subst h13
            have hd : d ≠ 10 := fun q => hc ⟨rfl, q⟩
            have e1 : crlfs false (13 :: d :: r) = 13 :: 10 :: crlfs true (d :: r) := rfl
            rw [e1, e2, crlfs_true hd]
            exact ends _ _ (ihd true)
          · have e1 : crlfs false (c :: d :: r) = c :: crlfs false (d :: r) := by rw [crlfs, if_neg h10, if_neg h13]
            have e3 : fed c = c := by unfold fed; rw [if_neg h13]
            rw [e1, e2, e3]
            exact plain c _ _ h10 h13 (ihd _)

theorem r2_len (n : Nat) : ∀ t : List Nat, t.length = n → (r2 t).length ≤ t.length := by
  induction n using Nat.strongRecOn with
  | _ n ih =>
    intro t hl
    match t, hl with
    | [], _ => exact Nat.le_refl _
    | [c], _ => exact Nat.le_refl _
    | c :: d :: r, hl =>
      rw [r2]
      split
      · have := ih r.length (by rw [← hl]; simp; omega) r rfl
        simp only [List.length_cons]; omega
      · have := ih (d :: r).length (by rw [← hl]; simp) (d :: r) rfl
        simp only [List.length_cons] at this ⊢; omega
theorem stuffN_len : ∀ (b : Bool) (l : List Nat), (stuffN b l).length ≤ 2 * l.length
  | _, [] => Nat.le_refl _
  | b, c :: r => by
    have h1 := stuffN_len (c == 10) r
    unfold stuffN
    split
    · simp only [List.length_append, List.length_cons, List.length_nil]; omega
    · split <;> simp only [List.length_append, List.length_cons, List.length_nil] <;> omega
theorem sent_len (t : List Nat) : (stuff true (crlfs false t)).length ≤ 2 * t.length := by
  rw [sent_eq _ t true rfl]
  have h1 := stuffN_len true (one t)
  have h2 := r2_len _ t rfl
  have h3 : (one t).length = (r2 t).length := List.length_map _
  omega

theorem crlfs_mem {c : Nat} : ∀ {b : Bool} {t : List Nat}, c ∈ crlfs b t → c ∈ t ∨ c = 13 ∨ c = 10
  | _, [], h => by cases h
  | b, d :: r, h => by
    unfold crlfs at h
    split at h
    · split at h
      · rcases crlfs_mem h with q | q
        · exact .inl (.tail _ q)
        · exact .inr q
      · rcases List.mem_cons.mp h with q | h
        · exact .inr (.inl q)
        rcases List.mem_cons.mp h with q | h
        · exact .inr (.inr q)
        rcases crlfs_mem h with q | q
        · exact .inl (.tail _ q)
        · exact .inr q
    · split at h
      · rcases List.mem_cons.mp h with q | h
        · exact .inr (.inl q)
        rcases List.mem_cons.mp h with q | h
        · exact .inr (.inr q)
        rcases crlfs_mem h with q | q
        · exact .inl (.tail _ q)
        · exact .inr q
      · rcases List.mem_cons.mp h with q | h
        · exact .inl (q ▸ .head _)
        rcases crlfs_mem h with q | q
        · exact .inl (.tail _ q)
        · exact .inr q
theorem stuff_mem {c : Nat} : ∀ {b : Bool} {t : List Nat}, c ∈ stuff b t → c ∈ t ∨ c = 46
  | _, [], h => by cases h
  | b, d :: r, h => by
    rw [stuff_cons] at h
    rcases List.mem_append.mp h with h | h
    · split at h
      · simp at h; exact .inr h
      · exact .inl (List.mem_singleton.mp h ▸ .head _)
    · rcases stuff_mem h with q | q
      · exact .inl (.tail _ q)
      · exact .inr q
theorem sent_mem {c : Nat} {t : List Nat} (h : c ∈ stuff true (crlfs false t)) : c ∈ t ∨ c = 13 ∨ c = 10 ∨ c = 46 := by
  rcases stuff_mem h with q | q
  · rcases crlfs_mem q with q | q | q
    · exact .inl q
    · exact .inr (.inl q)
    · exact .inr (.inr (.inl q))
  · exact .inr (.inr (.inr q))

theorem crlfs_end : ∀ (x : List Nat) (b : Bool), ∃ y, crlfs b (x ++ [13]) = y ++ [13, 10]
  | [], b => ⟨[], rfl⟩
  | c :: x, b => by
    rw [List.cons_append, crlfs]
    obtain ⟨y1, e1⟩ := crlfs_end x false
    obtain ⟨y2, e2⟩ := crlfs_end x true
    rw [e1, e2]
    split
    · split
      · exact ⟨y1, rfl⟩
      · exact ⟨13 :: 10 :: y1, rfl⟩
    · split
      · exact ⟨13 :: 10 :: y2, rfl⟩
      · exact ⟨c :: y1, rfl⟩
theorem stuff_end : ∀ (y : List Nat) (b : Bool), ∃ z, stuff b (y ++ [13, 10]) = z ++ [10]
  | [], b => ⟨[13], by
    show stuff b [13, 10] = _
    rw [stuff_cons, stuff_cons, show ((13 : Nat) == 46) = false from rfl, Bool.and_false]
    rfl⟩
  | c :: y, b => by
    rw [List.cons_append, stuff_cons]
    obtain ⟨z, e⟩ := stuff_end y (c == 10)
    exact ⟨_ ++ z, by rw [e, List.append_assoc]⟩
theorem sent_end (x : List Nat) : ∃ z, stuff true (crlfs false (x ++ [13])) = z ++ [10] := by
  obtain ⟨y, e⟩ := crlfs_end x false
  rw [e]
  exact stuff_end y true

/-- a row with a dot more where it opens with one -/
def dotted (p : List Nat) : List Nat := if p.head? = some 46 then 46 :: p else p
theorem stuffN_free : ∀ (p : List Nat) (rest : List Nat), 10 ∉ p → stuffN true (p ++ rest) = dotted p ++ (if p = [] then stuffN true rest else stuffN false rest)
  | [], rest, _ => rfl
  | c :: p, rest, h => by
    have h1 : c ≠ 10 := fun q => h (q ▸ .head _)
    have run : ∀ (p : List Nat), 10 ∉ p → stuffN false (p ++ rest) = p ++ stuffN false rest := by
      intro p
      induction p with
      | nil => intro _; rfl
      | cons d p ih =>
        intro hd
        have h2 : d ≠ 10 := fun q => hd (q ▸ .head _)
        rw [List.cons_append, stuffN, if_neg h2, Bool.false_and, if_neg (by simp), beq_false_of_ne h2, ih fun q => hd (.tail _ q)]
        rfl
    rw [List.cons_append, stuffN, if_neg h1, beq_false_of_ne h1, run p fun q => h (.tail _ q), if_neg (List.cons_ne_nil c p)]
    unfold dotted
    by_cases h46 : c = 46
    · subst h46; simp
    · simp [h46]

theorem stuffN_join (x10 x1310 : Str) (h1 : x10.cps.toList = [10]) (h2 : x1310.cps.toList = [13, 10]) : ∀ (parts dots : List Str), (∀ p ∈ parts, 10 ∉ p.cps.toList) → dots.map (·.cps.toList) = parts.map (fun p => dotted p.cps.toList) →
    stuffN true (Str.join x10 parts).cps.toList = (Str.join x1310 dots).cps.toList
  | [], dots, _, hd => by
    have : dots = [] := by simpa using hd
    subst this; rfl
  | [p], dots, hp, hd => by
    obtain ⟨d, rfl⟩ : ∃ d, dots = [d] := by
      have hl : dots.length = 1 := by simpa using congrArg List.length hd
      exact List.length_eq_one_iff.mp hl
    have e : d.cps.toList = dotted p.cps.toList := by simpa using hd
    show stuffN true p.cps.toList = d.cps.toList
    have := stuffN_free p.cps.toList [] (hp p (.head _))
    rw [List.append_nil] at this
    rw [this, e]
    split <;> simp [stuffN]
  | p :: q :: r, dots, hp, hd => by
    obtain ⟨d, dr, rfl⟩ : ∃ d dr, dots = d :: dr := by
      cases dots with
      | nil => simp at hd
      | cons d dr => exact ⟨d, dr, rfl⟩
    have hd' : d.cps.toList = dotted p.cps.toList ∧ dr.map (·.cps.toList) = (q :: r).map (fun p => dotted p.cps.toList) := by simpa using hd
    obtain ⟨e, he⟩ := hd'
    obtain ⟨d2, dr2, rfl⟩ : ∃ d2 dr2, dr = d2 :: dr2 := by
      cases dr with
      | nil => simp at he
      | cons d dr => exact ⟨d, dr, rfl⟩
    have ih := stuffN_join x10 x1310 h1 h2 (q :: r) (d2 :: dr2) (fun p hp' => hp p (.tail _ hp')) he
    have a1 : (Str.join x10 (p :: q :: r)).cps.toList = p.cps.toList ++ (10 :: (Str.join x10 (q :: r)).cps.toList) := by
      show ((p ++ x10 ++ Str.join x10 (q :: r)).cps).toList = _
      rw [Str.cps_append, Str.cps_append, Array.toList_append, Array.toList_append, h1]
      simp
    have a2 : (Str.join x1310 (d :: d2 :: dr2)).cps.toList = d.cps.toList ++ (13 :: 10 :: (Str.join x1310 (d2 :: dr2)).cps.toList) := by
      show ((d ++ x1310 ++ Str.join x1310 (d2 :: dr2)).cps).toList = _
      rw [Str.cps_append, Str.cps_append, Array.toList_append, Array.toList_append, h2]
      simp
    rw [a1, a2, stuffN_free _ _ (hp p (.head _)), e]
    have a3 : ∀ b, stuffN b (10 :: (Str.join x10 (q :: r)).cps.toList) = 13 :: 10 :: (Str.join x1310 (d2 :: dr2)).cps.toList := fun b => by
      rw [stuffN, if_pos rfl, ← ih]
      rfl
    rw [a3, a3]
    split <;> rfl
end Mine
namespace Mine
open PySem PySem.Builtin PySem.Builtin.Str PySem.StrLaws

theorem at_crlf {x y : Str} (hy : y.cps.toList = [13, 10]) (i : Nat) : At x y x.length i ↔ x.cps.toList[i]? = some 13 ∧ x.cps.toList[i + 1]? = some 10 := by
  have hl : y.length = 2 := by
    have : y.cps.toList.length = 2 := by rw [hy]; rfl
    simpa [Str.length] using this
  have hx : x.cps.toList.length = x.length := by simp [Str.length]
  unfold At
  rw [subAt_eq, hl, hy, beq_iff_eq]
  generalize x.cps.toList = L at hx
  constructor
  · rintro ⟨h1, h2⟩
    have e0 : ((L.drop i).take 2)[0]? = some 13 := by rw [h2]; rfl
    have e1 : ((L.drop i).take 2)[1]? = some 10 := by rw [h2]; rfl
    rw [List.getElem?_take_of_lt (by omega), List.getElem?_drop] at e0 e1
    exact ⟨by simpa using e0, e1⟩
  · rintro ⟨h1, h2⟩
    obtain ⟨a1, a2⟩ := List.getElem?_eq_some_iff.mp h1
    obtain ⟨b1, b2⟩ := List.getElem?_eq_some_iff.mp h2
    refine ⟨by omega, ?_⟩
    rw [List.drop_eq_getElem_cons a1, List.drop_eq_getElem_cons b1, a2, b2]
    rfl

theorem r2_step {L : List Nat} {i : Nat} (hi : i < L.length) (h : ¬ (L[i]? = some 13 ∧ L[i + 1]? = some 10)) : r2 (L.drop i) = L[i] :: r2 (L.drop (i + 1)) := by
  rw [List.drop_eq_getElem_cons hi]
  rcases Nat.lt_or_ge (i + 1) L.length with h1 | h1
  · rw [List.drop_eq_getElem_cons h1, r2, if_neg]
    rintro ⟨a, b⟩
    exact h ⟨by rw [List.getElem?_eq_getElem hi, a], by rw [List.getElem?_eq_getElem h1, b]⟩
  · rw [List.drop_eq_nil_of_le h1]
    rfl
theorem r2_pass {L : List Nat} : ∀ (n a : Nat), a + n ≤ L.length → (∀ k, a ≤ k → k < a + n → ¬ (L[k]? = some 13 ∧ L[k + 1]? = some 10)) → r2 (L.drop a) = (L.drop a).take n ++ r2 (L.drop (a + n))
  | 0, a, _, _ => by simp
  | n + 1, a, hn, h => by
    rw [r2_step (by omega) (h a (Nat.le_refl _) (by omega)), r2_pass n (a + 1) (by omega) fun k h1 h2 => h k (by omega) (by omega), List.drop_eq_getElem_cons (by omega : a < L.length), List.take_succ_cons, show a + 1 + n = a + (n + 1) by omega]
    rfl

theorem r2_parts {x y z : Str} (hy : y.cps.toList = [13, 10]) (hz : z.cps.toList = [10]) : ∀ (cuts : List Nat) (a f : Nat), a ≤ x.length → ChainG x y x.length a cuts f → (∀ k, f ≤ k → ¬ At x y x.length k) →
    (Str.join z (partsFrom x y.length a cuts)).cps.toList = r2 (x.cps.toList.drop a)
  | [], a, f, ha, h, hn => by
    have e : f = a := h
    subst e
    have hx : x.cps.toList.length = x.length := by simp [Str.length]
    have := r2_pass (L := x.cps.toList) (x.length - f) f (by omega) fun k h1 _ q => hn k h1 ((at_crlf hy k).mpr q)
    rw [this]
    show (strSub x f x.length).cps.toList = _
    rw [strSub_toList, List.drop_eq_nil_of_le (by omega : x.cps.toList.length ≤ f + (x.length - f))]
    simp [r2]
  | c :: r, a, f, ha, h, hn => by
    obtain ⟨h1, h2, h3, h4⟩ := h
    have hx : x.cps.toList.length = x.length := by simp [Str.length]
    have hl : y.length = 2 := by
      have : y.cps.toList.length = 2 := by rw [hy]; rfl
      simpa [Str.length] using this
    have hc := h2.1
    rw [hl] at hc
    obtain ⟨p, q, e⟩ := partsFrom_ne x y.length (c + y.length) r
    have ih := r2_parts hy hz r (c + y.length) f (by omega) h4 hn
    show (Str.join z (strSub x a c :: partsFrom x y.length (c + y.length) r)).cps.toList = _
    rw [e] at ih ⊢
    show ((strSub x a c ++ z ++ Str.join z (p :: q)).cps).toList = _
    rw [Str.cps_append, Str.cps_append, Array.toList_append, Array.toList_append, ih, hz, strSub_toList]
    have := r2_pass (L := x.cps.toList) (c - a) a (by omega) fun k k1 k2 q => h3 k k1 (by omega) ((at_crlf hy k).mpr q)
    rw [this, show a + (c - a) = c by omega, hl]
    obtain ⟨q1, q2⟩ := (at_crlf hy c).mp h2
    obtain ⟨a1, a2⟩ := List.getElem?_eq_some_iff.mp q1
    obtain ⟨b1, b2⟩ := List.getElem?_eq_some_iff.mp q2
    rw [List.drop_eq_getElem_cons a1, List.drop_eq_getElem_cons b1, a2, b2, r2, if_pos ⟨rfl, rfl⟩]
    simp

theorem replace_crlf {x y z : Str} (hy : y.cps.toList = [13, 10]) (hz : z.cps.toList = [10]) : (Txt.replace x y z).cps.toList = r2 x.cps.toList := by
  have hl : y.length = 2 := by
    have : y.cps.toList.length = 2 := by rw [hy]; rfl
    simpa [Str.length] using this
  obtain ⟨f, hG, hn⟩ := occ_tight x y (by omega)
  have key := r2_parts hy hz _ 0 f (Nat.zero_le _) hG hn
  rw [List.drop_zero] at key
  rw [← key]
  unfold Txt.replace
  rw [hl, show ((2 : Nat) == 0) = false from rfl, Bool.false_and, Bool.or_false]
  cases he : (occurrences x y 0 x.length (x.length + 1)).isEmpty with
  | true =>
    rw [if_pos rfl, List.isEmpty_iff.mp he]
    show _ = (strSub x 0 x.length).cps.toList
    rw [sub_whole]
  | false =>
    rw [if_neg Bool.false_ne_true, glued_eq_join, partsBetween_eq]

theorem fed_free : ∀ (L : List Nat), 13 ∉ L → L = L.map fed
  | [], _ => rfl
  | c :: r, h => by
    have h1 : c ≠ 13 := fun q => h (q ▸ .head _)
    rw [List.map_cons, ← fed_free r fun q => h (.tail _ q)]
    unfold fed
    rw [if_neg h1]
theorem join_fed {a b : Str} (ha : a.cps.toList = [13]) (hb : b.cps.toList = [10]) : ∀ parts : List Str, (∀ p ∈ parts, 13 ∉ p.cps.toList) → (Str.join b parts).cps.toList = (Str.join a parts).cps.toList.map fed
  | [], _ => rfl
  | [p], h => by
    show p.cps.toList = p.cps.toList.map fed
    exact fed_free _ (h p (.head _))
  | p :: q :: r, h => by
    have ih := join_fed ha hb (q :: r) fun p hp => h p (.tail _ hp)
    have h0' : p.cps.toList = p.cps.toList.map fed := fed_free _ (h p (.head _))
    show ((p ++ b ++ Str.join b (q :: r)).cps).toList = ((p ++ a ++ Str.join a (q :: r)).cps).toList.map fed
    simp only [Str.cps_append, Array.toList_append, List.map_append, ih, ha, hb, ← h0']
    rfl
theorem replace_cr {x a b : Str} (ha : a = ⟨#[13]⟩) (hb : b.cps.toList = [10]) : (Txt.replace x a b).cps.toList = x.cps.toList.map fed := by
  subst ha
  rw [replace_one, join_fed (a := ⟨#[13]⟩) rfl hb _ (split_free x 13), join_split]

/-- the rows of the mail, joined anew with a dot more, are what is sent -/
theorem rows_law {text u v b13 b10 b1310 : Str} {dots : List Str} (h13 : b13 = ⟨#[13]⟩) (h10 : b10 = ⟨#[10]⟩) (h1310 : b1310.cps.toList = [13, 10])
    (hu : u = Txt.replace text b1310 b10) (hv : v = Txt.replace u b13 b10) (hd : dots.map (·.cps.toList) = (Txt.split v b10).map (fun p => dotted p.cps.toList)) :
    (Str.join b1310 dots).cps.toList = stuff true (crlfs false text.cps.toList) := by
  have e1 : v.cps.toList = one text.cps.toList := by
    rw [hv, replace_cr h13 (by rw [h10]), hu, replace_crlf h1310 (by rw [h10])]
    rfl
  rw [sent_eq _ _ true rfl, ← e1]
  have := stuffN_join b10 b1310 (by rw [h10]) h1310 (Txt.split v b10) dots (by rw [h10]; exact split_free v 10) hd
  rw [← this, join_split]
end Mine
namespace Mine
open PySem PySem.W PyProof.Rows

section
variable {prog : Program} {w : World} {A : Around} {E : Value → Shared → Prop} {s : Shared} {env : Env} {Q : Value → Shared → Prop}

theorem constSM {x : Str} {k : Nat} {pos : Pos} (h : ∀ s' (t : Nat), Kp s s' → s.toks ≤ t → t < s'.toks → Q (.str x t) s') : wpAny (model prog w) A (eval (.Constant (.str x) k pos) env) Q E s :=
  Calls.Constant_str (h _ _ Kp.one (Nat.le_refl _) (Nat.lt_succ_self _))
theorem addS {x y : Str} {t u : Tok} (hz : x.length + y.length ≤ 1000000) (h : ∀ s' t', Kp s s' → Q (.str (x ++ y) t') s') : wpAny (model prog w) A (binaryOp .Add (.str x t) (.str y u)) Q E s := by
  have e1 : (2 : Nat) ^ 24 = 16777216 := by decide
  exact wpAny_with_toks (Nat.le_refl _) (SB.add (fun t' k htk => h _ _ (Kp.toks htk)) (by unfold sizeLine; omega))
theorem tupI {vs : List Value} (hz : vs.length ≤ 1000) (h : ∀ s' D, Kp s s' → IsTup s'.heap D vs.toArray → s.heap.get? D = none → Q (.ref D) s') : wpAny (model prog w) A (newTuple vs) Q E s := by
  refine wpAny_newTuple (h _ _ (Kp.heap (s := s) (fun b o e => Heap.get?_push_of_some _ e) (Nat.le_refl _)) ⟨_, Heap.get?_push_size _ rfl, rfl, 0, rfl⟩ (Heap.get?_none_of_le (Nat.le_refl _))) ?_
  rw [sizeLine_eq]; omega
theorem IsTup.upK {h h' : Heap} {a : Addr} {vs : Array Value} (x : IsTup h a vs) (k : Sub h h') : IsTup h' a vs := x.keeps k

theorem sliceK {value : Expr} {lower upper step : Option Expr} {p pos : Pos}
    (h : wpAny (model prog w) A (eval value env) (fun o s₁ => wpAny (model prog w) A (evalPart lower env) (fun vl s₂ => wpAny (model prog w) A (evalPart upper env) (fun vu s₃ => wpAny (model prog w) A (evalPart step env) (fun vs s₄ =>
      ∃ l us lo hi st, o = .ref l ∧ s₄.heap.IsList l (List.toArray us) ∧ us.length ≤ 1000 ∧ IsPart vl lo ∧ IsPart vu hi ∧ IsPart vs st ∧ st ≠ some 0 ∧
        ∀ D s', Kp s₄ s' → LL s'.heap D (slicePick us.toArray lo hi st).toList → s₄.heap.get? D = none → Q (.ref D) s') E s₃) E s₂) E s₁) E s)
    (hs : ∀ l sl, ∃ ops, subscripted (.Slice lower upper step p) false (.ref l) (.ref sl) = operate ops (getItem (.ref l) (.ref sl)) := by intro l sl; exact ⟨_, by with_unfolding_all rfl⟩) :
    wpAny (model prog w) A (eval (.Subscript value (.Slice lower upper step p) pos) env) Q E s := by
  refine Subscript_ (wpAny_mono h (fun o s₁ h₁ => wpAny_Slice (wpAny_mono h₁ (fun vl s₂ h₂ => wpAny_mono h₂ (fun vu s₃ h₃ => wpAny_mono h₃ (fun vs s₄ h₄ => ?_) fun _ _ e => e) fun _ _ e => e) fun _ _ e => e)) fun _ _ e => e)
  obtain ⟨l, us, lo, hi, st, rfl, hl, hz, pl, pu, ps, h0, hq⟩ := h₄
  obtain ⟨ops, ho⟩ := hs l s₄.heap.objs.size
  refine tail_any (hl.push _).typeIs slot_list_getitem.lookup (wpAny_getItem_list_slice (hl.push _) (Heap.IsSliceOf.new ..) pl pu ps h0 ?_ (by rw [sizeLine_eq, List.size_toArray]; omega)) ho
  rw [Heap.size_push]
  refine hq _ _ (Kp.heap (s := s₄) (fun b o e => Heap.get?_push_of_some _ (Heap.get?_push_of_some _ e)) (Nat.le_refl _)) ?_ (Heap.get?_none_of_le (Nat.le_succ _))
  refine ⟨0, ?_⟩
  rw [Array.toArray_toList, ← Heap.size_push s₄.heap { cls := .type "slice", data := .fields #[vl, vu, vs] }]
  exact Heap.get?_push_size _ rfl
theorem part_none {Q : Value → Shared → Prop} (h : Q .none s) : wpAny (model prog w) A (evalPart none env) Q E s := by rw [evalPart_none]; exact wpAny_pure h
theorem part_some {e : Expr} {Q : Value → Shared → Prop} (h : wpAny (model prog w) A (eval e env) Q E s) : wpAny (model prog w) A (evalPart (some e) env) Q E s := h

theorem chrI {i : Int} {t : Tok} (h0 : 0 ≤ i) (h1 : i ≤ 1114111) (h : ∀ s' t', Kp s s' → Q (.str ⟨#[i.toNat]⟩ t') s') : wpAny (model prog w) A (call (.builtin "chr") [.int i t]) Q E s :=
  chr_of_range h0 h1 (h _ _ Kp.one)
theorem ordI {c : Nat} {t : Tok} (h : ∀ s' (t' : Nat), Kp s s' → s.toks ≤ t' → t' < s'.toks → Q (.int c t') s') : wpAny (model prog w) A (call (.builtin "ord") [.str ⟨#[c]⟩ t]) Q E s :=
  P.ord_of_char (h _ _ Kp.one (Nat.le_refl _) (Nat.lt_succ_self _))
theorem intBoolI {b : Bool} (h : ∀ s' t', Kp s s' → Q (.int (if b then 1 else 0) t') s') : wpAny (model prog w) A (call (.type "int") [.bool b]) Q E s :=
  call_int_bool (h _ _ Kp.one)
theorem mulI {a b : Int} {t u : Tok} (hm : IntMulOk a b) (h : ∀ s' (t' : Nat), Kp s s' → s.toks ≤ t' → t' < s'.toks → Q (.int (a * b) t') s') : wpAny (model prog w) A (binaryOp .Mult (.int a t) (.int b u)) Q E s :=
  mul_int (h _ _ Kp.one (Nat.le_refl _) (Nat.lt_succ_self _)) hm
theorem dotsI {b : Bool} {x : Str} {t u : Tok} (h : ∀ s' t', Kp s s' → Q (.str (if b then x else Str.empty) t') s') : wpAny (model prog w) A (binaryOp .Mult (.str x t) (.int (if b then 1 else 0) u)) Q E s := by
  cases b with
  | false => exact P.mul_str_none (by decide) (by decide) (h _ _ Kp.one)
  | true => exact P.mul_str (by decide) (fun _ q => by simp at q) (fun _ q => by simp at q) (h _ _ Kp.refl)
end
end Mine
namespace Mine
open PySem PySem.W PyProof.Rows

abbrev lenv (L c1 c2 : Addr) : Env :=
  { scope := (part 17).2.2, locals := L, globals := mainGlobals, cells := [(Str.ofString "ordered", c2), (Str.ofString "codes", c1)], qual := Str.ofString "law" ++ Str.ofString ".<locals>.", func := some 109, code := .ref 108, frame := some L, builtins := builtinsNs }

def TextOk (l : List Nat) : Prop := ∀ c ∈ l, c < 128 ∧ c ≠ 64
theorem TextOk.append {a b : List Nat} (h : TextOk a) (k : TextOk b) : TextOk (a ++ b) := fun c hc => (List.mem_append.mp hc).elim (h c) (k c)

section
variable {prog : Program} {w : World} {A : Around} {E : Value → Shared → Prop} {s s₀ : Shared} {X : List Addr} {g : Heap} {m cm : Str → Option Value} {L c1 c2 : Addr}

theorem seqIdx {k : Int} {n : Nat} (h0 : 0 ≤ k) (h1 : k < n) : seqIndex? k n = some k.toNat := by
  unfold seqIndex?
  have h2 : ¬ k < 0 := by omega
  simp [h2]
  omega
theorem tup_pick {value slice : Expr} {t : Addr} {l : List Value} {k : Int} {u : Tok} {Q : Value → Shared → Prop} (ht : IsTup s.heap t l.toArray) (h0 : 0 ≤ k) (h1 : k < l.length) (hz : l.length ≤ 1000) (h : ∀ v ∈ l, Q v s)
    (hs : subscripted slice false (.ref t) (.int k u) = operate [.ref t, .int k u] (getItem (.ref t) (.int k u)) := by with_unfolding_all rfl) :
    wpAny (model prog w) A (subscriptTail value slice (.ref t) (.int k u)) Q E s :=
  item_tupleT ht (by omega) (by omega) (seqIdx h0 h1) (List.getElem?_eq_getElem (by omega)) (h _ (List.getElem_mem (by omega))) hs

theorem tup3_ {env : Env} {e₁ e₂ e₃ : Expr} {k : Nat} {pos : Pos} {Q : Value → Shared → Prop}
    (h : wpAny (model prog w) A (eval e₁ env) (fun v₁ s₁ => wpAny (model prog w) A (eval e₂ env) (fun v₂ s₂ => wpAny (model prog w) A (eval e₃ env) (fun v₃ s₃ => wpAny (model prog w) A (newTuple [v₁, v₂, v₃]) Q E s₃) E s₂) E s₁) E s)
    (hs : backTo pos (starEach [e₁, e₂, e₃] env) = [(false, eval e₁ env), (false, eval e₂ env), (false, eval e₃ env)] := by rfl) : wpAny (model prog w) A (eval (.Tuple [e₁, e₂, e₃] k pos) env) Q E s := by
  refine Tuple_ ?_
  rw [hs]
  exact Calls.spliced_cons (wpAny_mono h (fun _ _ h => Calls.spliced_cons (wpAny_mono h (fun _ _ h => Calls.spliced_cons (wpAny_mono h (fun _ _ h => Calls.spliced_nil h) fun _ _ e => e)) fun _ _ e => e)) fun _ _ e => e)
theorem tup5_ {env : Env} {e₁ e₂ e₃ e₄ e₅ : Expr} {k : Nat} {pos : Pos} {Q : Value → Shared → Prop}
    (h : wpAny (model prog w) A (eval e₁ env) (fun v₁ s₁ => wpAny (model prog w) A (eval e₂ env) (fun v₂ s₂ => wpAny (model prog w) A (eval e₃ env) (fun v₃ s₃ => wpAny (model prog w) A (eval e₄ env) (fun v₄ s₄ => wpAny (model prog w) A (eval e₅ env) (fun v₅ s₅ =>
      wpAny (model prog w) A (newTuple [v₁, v₂, v₃, v₄, v₅]) Q E s₅) E s₄) E s₃) E s₂) E s₁) E s)
    (hs : backTo pos (starEach [e₁, e₂, e₃, e₄, e₅] env) = [(false, eval e₁ env), (false, eval e₂ env), (false, eval e₃ env), (false, eval e₄ env), (false, eval e₅ env)] := by rfl) : wpAny (model prog w) A (eval (.Tuple [e₁, e₂, e₃, e₄, e₅] k pos) env) Q E s := by
  refine Tuple_ ?_
  rw [hs]
  exact Calls.spliced_cons (wpAny_mono h (fun _ _ h => Calls.spliced_cons (wpAny_mono h (fun _ _ h => Calls.spliced_cons (wpAny_mono h (fun _ _ h => Calls.spliced_cons (wpAny_mono h (fun _ _ h => Calls.spliced_cons (wpAny_mono h (fun _ _ h => Calls.spliced_nil h) fun _ _ e => e)) fun _ _ e => e)) fun _ _ e => e)) fun _ _ e => e)) fun _ _ e => e)

theorem l17_0 {Q : Flow → Shared → Prop} (F : LF s₀ X g (lenv L c1 c2) m cm s) (h : ∀ s' t, LF s₀ X g (lenv L c1 c2) (upd m "text" (.str "" t)) cm s' → s.toks ≤ s'.toks → Q .next s') :
    wpAny (model prog w) A (exec (st 17 0) (lenv L c1 c2)) Q E s :=
  wpAny_Assign_Name (constS fun s₁ t k => (F.kp k).store rfl fun s' F' _ ht => h s' t F' (Nat.le_trans k.tok ht))

theorem l17_1_turn {n : Int} {t u : Tok} {y : Str} {Q : Flow → Shared → Prop} (G : Glb g) (F : LF s₀ X g (lenv L c1 c2) m cm s) (hx : m "x" = some (.int n t)) (ht : m "text" = some (.str y u)) (hy : y.length ≤ 1000)
    (h : ∀ s' m' p u', LF s₀ X g (lenv L c1 c2) m' cm s' → m' "text" = some (.str (y ++ p) u') → TextOk p.cps.toList → p.length ≤ 2 → KB (lenv L c1 c2).locals s s' → s.toks ≤ s'.toks → Q .next s') :
    wpAny (model prog w) A (execs (within (st 17 1)) (lenv L c1 c2)) Q E s := by
  have hp : Builtin.divisionGoesByPylong n 5 = false := PyProof.noPylong_of_log2 (by decide)
  refine wpAny_execs_cons (wpAny_Assign_Name (wpAny_BinOp (wpAny_BinOp (F.name rfl hx (constI fun s₁ t₁ k₁ _ _ => fdivI (by decide) hp fun s₂ r₂ k₂ _ _ => constI fun s₃ t₃ k₃ _ _ => modI (by decide) fun s₄ r₄ k₄ _ _ => ?_)))))
  have K4 := ((k₁.trans k₂).trans k₃).trans k₄
  generalize hc0 : (n.fdiv 5).fmod 127 = c0
  have hc1 : 0 ≤ c0 ∧ c0 < 127 := by
    rw [← hc0]
    exact ⟨Int.fmod_nonneg_of_pos _ (by decide), Int.fmod_lt_of_pos _ (by decide)⟩
  refine (F.kp K4).store rfl fun s₅ F₅ kb₅ ht₅ => ?_
  have hx₅ : upd m "code" (.int c0 r₄) "x" = some (.int n t) := hx
  have hy₅ : upd m "code" (.int c0 r₄) "text" = some (.str y u) := ht
  have hcd₅ : upd m "code" (.int c0 r₄) "code" = some (.int c0 r₄) := rfl
  refine wpAny_execs_cons (wpAny_Assign_Name (wpAny_BinOp (F₅.name rfl hy₅ ?_)))
  refine Subscript_ (tup5_ (Subscript_ (tup3_ (constS fun s₆ t₆ k₆ => constS fun s₇ t₇ k₇ => constS fun s₈ t₈ k₈ => tupI (Nat.le_of_ble_eq_true rfl) fun s₉ D₉ k₉ hD₉ _ => ?_))))
  have K9 := ((k₆.trans k₇).trans k₈).trans k₉
  have F₉ := F₅.kp K9
  refine wpAny_BinOp (wpAny_BinOp (F₉.name rfl hx₅ (constI fun s₁₀ t₁₀ k₁₀ _ _ => fdivI (by decide) hp fun s₁₁ r₁₁ k₁₁ _ _ => constI fun s₁₂ t₁₂ k₁₂ _ _ => modI (by decide) fun s₁₃ r₁₃ k₁₃ _ _ => ?_)))
  have K13 := ((k₁₀.trans k₁₁).trans k₁₂).trans k₁₃
  refine tup_pick (PyProof.Rows.IsTup.keeps hD₉ K13.sub) (Int.fmod_nonneg_of_pos _ (by decide)) (Int.fmod_lt_of_pos _ (by decide)) (Nat.le_of_ble_eq_true rfl) fun v₀ hv₀ => ?_
  obtain ⟨p₀, u₀, rfl, hp₀, hl₀⟩ : ∃ p₀ u₀, v₀ = .str p₀ u₀ ∧ TextOk p₀.cps.toList ∧ p₀.length ≤ 2 := by
    rcases List.mem_cons.mp hv₀ with rfl | hv₀
    · exact ⟨_, _, rfl, by unfold TextOk; decide +kernel, by decide +kernel⟩
    rcases List.mem_cons.mp hv₀ with rfl | hv₀
    · exact ⟨_, _, rfl, by unfold TextOk; decide +kernel, by decide +kernel⟩
    rw [List.mem_singleton.mp hv₀]
    exact ⟨_, _, rfl, by unfold TextOk; decide +kernel, by decide +kernel⟩
  refine constS fun s₁₄ t₁₄ k₁₄ => constS fun s₁₅ t₁₅ k₁₅ => constS fun s₁₆ t₁₆ k₁₆ => ?_
  have K16 := ((K13.trans k₁₄).trans k₁₅).trans k₁₆
  have F₁₆ := F₉.kp K16
  have G₁₆ := G.up F₁₆.sub
  refine call1B (G₁₆.nameB (by boot_by_name) ⟨rfl, rfl⟩) (wpAny_BinOp (F₁₆.name rfl hcd₅ ?_))
  refine call1T (G₁₆.nameB (by boot_by_name) ⟨rfl, rfl⟩) (wpAny_Compare1 (F₁₆.name rfl hcd₅ (constI fun s₁₇ t₁₇ k₁₇ _ _ => gt_int (intBoolI fun s₁₈ t₁₈ k₁₈ => addI fun s₁₉ r₁₉ k₁₉ _ _ => ?_))))
  have hch : 0 ≤ c0 + (if decide (63 < c0) = true then 1 else 0) ∧ c0 + (if decide (63 < c0) = true then 1 else 0) < 128 ∧ c0 + (if decide (63 < c0) = true then 1 else 0) ≠ 64 := by
    by_cases q : 63 < c0
    · simp [q]; omega
    · simp [q]; omega
  refine chrI hch.1 (by omega) fun s₂₀ t₂₀ k₂₀ => tupI (Nat.le_of_ble_eq_true rfl) fun s₂₁ D₂₁ k₂₁ hD₂₁ _ => ?_
  have K21 := ((((K16.trans k₁₇).trans k₁₈).trans k₁₉).trans k₂₀).trans k₂₁
  have F₂₁ := F₉.kp K21
  refine wpAny_BinOp (F₂₁.name rfl hx₅ (constI fun s₂₂ t₂₂ k₂₂ _ _ => modI (by decide) fun s₂₃ r₂₃ k₂₃ _ _ => ?_))
  refine tup_pick (PyProof.Rows.IsTup.keeps hD₂₁ (k₂₂.trans k₂₃).sub) (Int.fmod_nonneg_of_pos _ (by decide)) (Int.fmod_lt_of_pos _ (by decide)) (Nat.le_of_ble_eq_true rfl) fun v₁ hv₁ => ?_
  obtain ⟨p₁, u₁, rfl, hp₁, hl₁⟩ : ∃ p₁ u₁, v₁ = .str p₁ u₁ ∧ TextOk p₁.cps.toList ∧ p₁.length ≤ 2 := by
    rcases List.mem_cons.mp hv₁ with rfl | hv₁
    · exact ⟨_, _, rfl, hp₀, hl₀⟩
    rcases List.mem_cons.mp hv₁ with rfl | hv₁
    · exact ⟨_, _, rfl, by unfold TextOk; decide +kernel, by decide +kernel⟩
    rcases List.mem_cons.mp hv₁ with rfl | hv₁
    · exact ⟨_, _, rfl, by unfold TextOk; decide +kernel, by decide +kernel⟩
    rcases List.mem_cons.mp hv₁ with rfl | hv₁
    · exact ⟨_, _, rfl, by unfold TextOk; decide +kernel, by decide +kernel⟩
    rw [List.mem_singleton.mp hv₁]
    refine ⟨_, _, rfl, fun c hc => ?_, (by show 1 ≤ 2; decide)⟩
    have hc' : c = (c0 + (if decide (63 < c0) = true then 1 else 0)).toNat := List.mem_singleton.mp hc
    rw [hc']
    omega
  refine addS (by omega) fun s₂₄ t₂₄ k₂₄ => ?_
  refine (F₂₁.kp ((k₂₂.trans k₂₃).trans k₂₄)).store rfl fun s₂₅ F₂₅ kb₂₅ ht₂₅ => ?_
  have Kall := K9.trans ((K21.trans k₂₂).trans (k₂₃.trans k₂₄))
  refine wpAny_execs_nil (h s₂₅ _ p₁ t₂₄ F₂₅ rfl hp₁ hl₁ ?_ ?_)
  · exact (KB.ofSub K4.sub).trans (kb₅.trans ((KB.ofSub Kall.sub).trans kb₂₅))
  · exact Nat.le_trans K4.tok (Nat.le_trans ht₅ (Nat.le_trans Kall.tok ht₂₅))
end
end Mine
namespace Mine
open PySem PySem.W PyProof.Rows

section
variable {prog : Program} {w : World} {A : Around} {E : Value → Shared → Prop} {s s₀ : Shared} {X : List Addr} {g : Heap} {m cm : Str → Option Value} {L c1 c2 : Addr}

theorem LF.grow {env : Env} {s' : Shared} (F : LF s₀ X g env m cm s) (hX : ∀ a ∈ X, ∃ o, s.heap.get? a = some o) (k : Kp s s') :
    ∃ g', LF s₀ X g' env m cm s' ∧ Sub g g' ∧ ∀ b o, s.heap.get? b = none → s'.heap.get? b = some o → g'.get? b = some o := by
  obtain ⟨g', F', h1, h2⟩ := (F.kp k).ground
  refine ⟨g', F', h1, fun b o hn e => h2 b o (fun hb => ?_) e⟩
  obtain ⟨o', e'⟩ := hX b hb
  rw [hn] at e'; cases e'

/-- what the law's frame holds apart -/
abbrev LX (L c1 c2 : Addr) : List Addr := [L, c1, c2]
theorem LX.live (F : LF s₀ (LX L c1 c2) g (lenv L c1 c2) m cm s) : ∀ a ∈ LX L c1 c2, ∃ o, s.heap.get? a = some o := by
  intro a ha
  rcases List.mem_cons.mp ha with q | ha
  · obtain ⟨o, _, _, e, _⟩ := F.ns; rw [q]; exact ⟨o, e⟩
  rcases List.mem_cons.mp ha with q | ha
  · obtain ⟨o, e, _⟩ := F.cell "codes" c1 rfl; rw [q]; exact ⟨o, e⟩
  · obtain ⟨o, e, _⟩ := F.cell "ordered" c2 rfl; rw [List.mem_singleton.mp ha]; exact ⟨o, e⟩
theorem LX.less {Y : List Addr} (F : LF s₀ (Y ++ LX L c1 c2) g (lenv L c1 c2) m cm s) : LF s₀ (LX L c1 c2) g (lenv L c1 c2) m cm s := by
  refine F.less (fun a ha => List.mem_append_right _ ha) (.head _) fun n c e => ?_
  have hm : (n, c) ∈ [(Str.ofString "ordered", c2), (Str.ofString "codes", c1)] := by
    obtain ⟨l₁, l₂, hx, _⟩ := List.lookup_eq_some_iff.mp e
    show (n, c) ∈ (lenv L c1 c2).cells
    rw [hx]; simp
  rcases List.mem_cons.mp hm with q | hm
  · cases q; exact .tail _ (.tail _ (.head _))
  · cases List.mem_singleton.mp hm; exact .tail _ (.head _)

theorem ints_take {vs : List Value} {ns : List Int} (h : IntsAre vs ns) : ∀ k, IntsAre (vs.take k) (ns.take k) := by
  induction h with
  | nil => intro k; simp; exact .nil
  | cons n t _ ih =>
    intro k
    cases k with
    | zero => exact .nil
    | succ k => exact .cons n t (ih k)

theorem l17_1 {D : Addr} {vs : List Value} {ns : List Int} {t : Tok} {Q : Flow → Shared → Prop} (G : Glb g) (hh : A.handled = none) (F : LF s₀ (LX L c1 c2) g (lenv L c1 c2) m cm s) (hsc : m "script" = some (.ref D)) (htx : m "text" = some (.str "" t))
    (hD : g.IsList D vs.toArray) (hI : IntsAre vs ns) (hz : vs.length ≤ 1000)
    (h : ∀ s' m' y u, LF s₀ (LX L c1 c2) g (lenv L c1 c2) m' cm s' → m' "text" = some (.str y u) → TextOk y.cps.toList → y.length ≤ 10 → s.toks ≤ s'.toks → Q .next s') :
    wpAny (model prog w) A (exec (st 17 1) (lenv L c1 c2)) Q E s := by
  refine wpAny_For (sliceK (F.name rfl hsc (part_none (part_some (constI fun s₁ t₁ k₁ _ _ => part_none ?_)))))
  refine ⟨D, vs, none, some 5, none, rfl, hD.at fun o e => k₁.sub _ _ (F.sub _ _ e), hz, .none, .int 5 t₁, .none, by decide, fun D' s₂ k₂ hD' hn => ?_⟩
  have hsl : slicePick vs.toArray none (some 5) none = (vs.take 5).toArray := by
    rw [slicePick_plain]
    simp only [Option.elim_none, Option.elim_some, List.drop_zero, Nat.sub_zero]
    congr 1
    rcases Nat.lt_or_ge vs.length 5 with q | q
    · rw [List.take_of_length_le (by omega : vs.length ≤ 5)]
      exact List.take_of_length_le (by simp [clipAt]; omega)
    · congr 1
      simp [clipAt]
      omega
  rw [hsl] at hD'
  obtain ⟨g₂, F₂, hgg, hg₂⟩ := (F.kp k₁).grow (LX.live (F.kp k₁)) k₂
  have hDg : g₂.IsList D' (vs.take 5).toArray := by
    obtain ⟨n, e⟩ := hD'
    exact LL.is ⟨n, by simpa using hg₂ _ _ hn e⟩
  refine wpAny_pyIter_list (hDg.at fun o e => F₂.sub _ _ e) ?_
  have F₃ := (F₂.more F₂.fresh).kp (Kp.heap (s := s₂) (h := s₂.heap.push { cls := .type "list_iterator", data := .fields #[.ref D', .int 0 0] }) (k := s₂.toks) (fun b o e => Heap.get?_push_of_some _ e) (Nat.le_refl _))
  refine for_iter (vs := vs.take 5) (J := fun i _ m₁ => ∃ y u, m₁ "text" = some (.str y u) ∧ TextOk y.cps.toList ∧ y.length ≤ 2 * i) hh F₃ ⟨_, Heap.get?_push_size _ rfl, rfl, rfl⟩ (.head _) hDg (Nat.zero_le _) rfl ⟨_, _, htx, fun c hc => (by cases hc), Nat.zero_le _⟩ ?_ ?_
  · rintro E' i v g₁ m₁ s₁' _ hv hsub ⟨y, u, hy, hok, hlen⟩ F₄ _
    have hi5 : i < 5 := by
      have := (List.getElem?_eq_some_iff.mp hv).1
      rw [List.length_take] at this
      omega
    obtain ⟨n, t', _, rfl⟩ := ints_at (ints_take hI 5) hv
    have ht4 : upd m₁ "x" (.int n t') "text" = some (.str y u) := hy
    refine l17_1_turn (G.up (hgg.trans hsub)) F₄ (if_pos rfl) ht4 (by omega) fun s₅ m₅ p u' F₅ hm₅ hp hl kb ht => ?_
    refine ⟨g₁, m₅, Sub.refl, ⟨_, _, hm₅, ?_, ?_⟩, F₅, kb, ht⟩
    · show TextOk (y.cps ++ p.cps).toList
      rw [Array.toList_append]
      exact hok.append hp
    · show (y.cps ++ p.cps).size ≤ _
      rw [Array.size_append]
      have e1 : y.cps.size = y.length := rfl
      have e2 : p.cps.size = p.length := rfl
      omega
  · rintro g₁ m₁ s₄ hsub ⟨y, u, hy, hok, hlen⟩ F₄ ht
    have F₅ := LX.less (Y := [_]) F₄
    have F₆ : LF s₀ (LX L c1 c2) g (lenv L c1 c2) m₁ cm s₄ := { F₅ with sub := (hgg.trans hsub).trans F₅.sub, off := F.off }
    refine h s₄ m₁ y u F₆ hy hok ?_ (Nat.le_trans (k₁.trans k₂).tok ht)
    rw [List.length_take] at hlen
    omega

theorem l17_2 {y : Str} {u : Tok} {Q : Flow → Shared → Prop} (F : LF s₀ X g (lenv L c1 c2) m cm s) (htx : m "text" = some (.str y u)) (hy : y.length ≤ 10) (hok : TextOk y.cps.toList)
    (h : ∀ s' x t, LF s₀ X g (lenv L c1 c2) (upd m "text" (.str x t)) cm s' → TextOk x.cps.toList → x.length ≤ 20 → (∃ z, x.cps.toList = z ++ [13]) → s.toks ≤ s'.toks → Q .next s') :
    wpAny (model prog w) A (exec (st 17 2) (lenv L c1 c2)) Q E s := by
  refine wpAny_Assign_Name (wpAny_BinOp (F.name rfl htx (constS fun s₁ t₁ k₁ => addS ?_ fun s₂ t₂ k₂ => ?_)))
  · have : (Str.ofString "AB.\n.AB.\r").length = 9 := by decide +kernel
    omega
  refine (F.kp (k₁.trans k₂)).store rfl fun s₃ F₃ kb ht => h s₃ _ _ F₃ ?_ ?_ ?_ (Nat.le_trans (k₁.trans k₂).tok ht)
  · show TextOk (y.cps ++ (Str.ofString "AB.\n.AB.\r").cps).toList
    rw [Array.toList_append]
    exact hok.append (by unfold TextOk; decide +kernel)
  · show (y.cps ++ (Str.ofString "AB.\n.AB.\r").cps).size ≤ 20
    rw [Array.size_append]
    have e1 : y.cps.size = y.length := rfl
    have e2 : (Str.ofString "AB.\n.AB.\r").cps.size = 9 := by decide +kernel
    omega
  · refine ⟨y.cps.toList ++ [65, 66, 46, 10, 46, 65, 66, 46], ?_⟩
    show (y.cps ++ (Str.ofString "AB.\n.AB.\r").cps).toList = _
    rw [Array.toList_append, show (Str.ofString "AB.\n.AB.\r").cps.toList = [65, 66, 46, 10, 46, 65, 66, 46, 13] by decide +kernel, List.append_assoc]
    rfl

theorem l17_3 {y : Str} {u : Tok} {Q : Flow → Shared → Prop} (G : Glb g) (hroom : A.depth < recursionLimit) (F : LF s₀ X g (lenv L c1 c2) m cm s) (htx : m "text" = some (.str y u)) (hy : y.length ≤ 20)
    (h : ∀ s' z t, LF s₀ X g (lenv L c1 c2) (upd m "sent" (.str z t)) cm s' → z.cps.toList = stuff true (crlfs false y.cps.toList) → s.toks ≤ s'.toks → Q .next s') :
    wpAny (model prog w) A (exec (st 17 3) (lenv L c1 c2)) Q E s := by
  have G₁ := G.up F.sub
  refine wpAny_Assign_Name (call1F (G₁.nameU (fun mg n => n.quote) ⟨rfl, rfl⟩) (F.name rfl htx ⟨G₁.fQuote, call_quotedata G₁ hroom (by have e1 : y.cps.size = y.length := rfl; omega) fun z t' s₁ k₁ hz => ?_⟩))
  exact (F.kp k₁).store rfl fun s₂ F₂ kb ht => h s₂ z t' F₂ hz (Nat.le_trans k₁.tok ht)
end
end Mine
namespace Mine
open PySem PySem.W PyProof.Rows PySem.Builtin.Str

section
variable {prog : Program} {w : World} {A : Around} {E : Value → Shared → Prop} {s s₀ : Shared} {X : List Addr} {g : Heap} {m cm : Str → Option Value} {L c1 c2 : Addr}

theorem strM1 {name : Str} {id : String} {x : Str} {t : Tok} {pos : Pos} {t₁ : Sem Value} {Q : Value → Shared → Prop} (slot : Slot "str" name id) (ty : typeOf (.builtin id) = pure (.type "method_descriptor"))
    (h : wpAny (model prog w) A t₁ (fun v₁ s₁ => wpAny (model prog w) A (call (.builtin id) [.str x t, v₁]) Q E s₁) E s) : MethodOnS prog w A E name (.str x t) pos [(false, t₁)] Q s :=
  ⟨"str", id, PySem.F.plainAttrs_str, slot, ty, typeIs_str _ _ _, (fun _ e => nomatch e),
    Calls.callWith_builtin rfl (Calls.evalArgs_plain (Calls.spliced_cons (wpAny_mono h (fun v s₂ q => Calls.spliced_nil q) fun _ _ z => z)))⟩
theorem strM2 {name : Str} {id : String} {x : Str} {t : Tok} {pos : Pos} {t₁ t₂ : Sem Value} {Q : Value → Shared → Prop} (slot : Slot "str" name id) (ty : typeOf (.builtin id) = pure (.type "method_descriptor"))
    (h : wpAny (model prog w) A t₁ (fun v₁ s₁ => wpAny (model prog w) A t₂ (fun v₂ s₂ => wpAny (model prog w) A (call (.builtin id) [.str x t, v₁, v₂]) Q E s₂) E s₁) E s) : MethodOnS prog w A E name (.str x t) pos [(false, t₁), (false, t₂)] Q s :=
  ⟨"str", id, PySem.F.plainAttrs_str, slot, ty, typeIs_str _ _ _, (fun _ e => nomatch e),
    Calls.callWith_builtin rfl (Calls.evalArgs_plain (Calls.spliced_cons (wpAny_mono h (fun v s₂ q => Calls.spliced_cons (wpAny_mono q (fun v s₃ q => Calls.spliced_nil q) fun _ _ z => z)) fun _ _ z => z)))⟩

theorem replaceI {x y z : Str} {t : Tok} {u v : Nat} {Q : Value → Shared → Prop} (hu : u ≠ 0) (hv : v ≠ 0) (huv : u ≠ v) (hyz : (y == z) = false) (hx : x.length ≤ 1048576) (hz : z.length ≤ 14)
    (hq : ∀ t' s', Kp s s' → Q (.str (Txt.replace x y z) t') s') : wpAny (model prog w) A (call (.builtin "str.replace") [.str x t, .str y u, .str z v]) Q E s :=
  wpAny_with_toks (Nat.le_refl _) (SC.replaceW hu hv huv hyz hx hz fun t' k htk => hq _ _ (Kp.toks htk))
theorem splitI {x y : Str} {t u : Tok} {Q : Value → Shared → Prop} (hy : (y.length == 0) = false) (hx : x.length ≤ 1000)
    (hq : ∀ D l s', Kp s s' → l.map (·.1) = Txt.split x y → s'.heap.IsList D (strValues l).toArray → Q (.ref D) s') : wpAny (model prog w) A (call (.builtin "str.split") [.str x t, .str y u]) Q E s := by
  refine wpAny_with_toks (Nat.le_refl s.toks) (SCH.split1 (P := fun h' => Sub s.heap h') (fun h' o k b ob e => Heap.get?_push_of_some _ (k b ob e)) Sub.refl hy (fun D l h' k hl hs hD htk => hq D l _ (Kp.heap hs htk) hl hD) ?_ ?_)
  · rw [sizeLine_eq]; omega
  · have h1 := StrLaws.occ_length_le x y 0 x.length (x.length + 1)
    have h2 : ∀ (cuts : List Nat) wd, (partsBetween x cuts wd).length = cuts.length + 1 := fun cuts wd => by simp [partsBetween]
    rw [h2, sizeLine_eq]; omega

theorem LX.flds {Y : List Addr} (F : LF s₀ Y g (lenv L c1 c2) m cm s) {a : Addr} (h : Flds s.heap a) : a ∉ LX L c1 c2 := by
  intro ha
  rcases List.mem_cons.mp ha with q | ha
  · exact F.notLoc h q
  rcases List.mem_cons.mp ha with q | ha
  · exact F.notCell h (n := "codes") (c := c1) rfl q
  · exact F.notCell h (n := "ordered") (c := c2) rfl (List.mem_singleton.mp ha)

theorem l17_4 {y : Str} {u : Tok} {Q : Flow → Shared → Prop} (h0 : 0 < s₀.toks) (F : LF s₀ (LX L c1 c2) g (lenv L c1 c2) m cm s) (htx : m "text" = some (.str y u)) (hy : y.length ≤ 20)
    (h : ∀ s' D l g', LF s₀ (LX L c1 c2) g' (lenv L c1 c2) (upd m "rows" (.ref D)) cm s' → Sub g g' → g'.IsList D (strValues l).toArray → l.map (·.1) = Txt.split (Txt.replace (Txt.replace y "\r\n" "\n") "\r" "\n") "\n" → l.length ≤ 1000 →
      s.toks ≤ s'.toks → Q .next s') :
    wpAny (model prog w) A (exec (st 17 4) (lenv L c1 c2)) Q E s := by
  refine wpAny_Assign_Name (Call_method1 rfl rfl (by decide +kernel) (Call_method2 rfl rfl (by decide +kernel) (Call_method2 rfl rfl (by decide +kernel) (F.name rfl htx ?_))))
  have hF := F.tok
  refine strM2 PySem.F.slot_str_replace PySem.F.type_str_replace (constSM fun s₁ u₁ k₁ a₁ b₁ => constSM fun s₂ u₂ k₂ a₂ b₂ => replaceI (by omega) (by omega) (by omega) (by decide +kernel) (by omega) (by decide +kernel) fun t₃ s₃ k₃ => ?_)
  have K3 := (k₁.trans k₂).trans k₃
  have e1 : (Txt.replace y "\r\n" "\n").cps.toList = r2 y.cps.toList := replace_crlf (by decide +kernel) (by decide +kernel)
  have n1 : (Txt.replace y "\r\n" "\n").length ≤ 20 := by
    have := r2_len _ y.cps.toList rfl
    rw [← e1] at this
    simp only [Array.length_toList] at this
    exact Nat.le_trans this hy
  have ht3 := K3.tok
  refine strM2 PySem.F.slot_str_replace PySem.F.type_str_replace (constSM fun s₄ u₄ k₄ a₄ b₄ => constSM fun s₅ u₅ k₅ a₅ b₅ => replaceI (by omega) (by omega) (by omega) (by decide +kernel) (by omega) (by decide +kernel) fun t₆ s₆ k₆ => ?_)
  have e2 : (Txt.replace (Txt.replace y "\r\n" "\n") "\r" "\n").cps.toList = (Txt.replace y "\r\n" "\n").cps.toList.map fed := replace_cr (by decide +kernel) (by decide +kernel)
  have n2 : (Txt.replace (Txt.replace y "\r\n" "\n") "\r" "\n").length ≤ 20 := by
    have := congrArg List.length e2
    simp only [Array.length_toList, List.length_map] at this
    show (Txt.replace (Txt.replace y "\r\n" "\n") "\r" "\n").cps.size ≤ 20
    rw [this]; exact n1
  refine strM1 PySem.F.slot_str_split PySem.F.type_str_split (constS fun s₇ u₇ k₇ => splitI (by decide +kernel) (by omega) fun D l s₈ k₈ hl hD => ?_)
  have K8 := K3.trans (((k₄.trans k₅).trans k₆).trans (k₇.trans k₈))
  have F₈ := F.kp K8
  obtain ⟨g', F', hgg, hg'⟩ := F₈.ground
  have hDX : D ∉ LX L c1 c2 := LX.flds F₈ (flds_list hD)
  have hDg : g'.IsList D (strValues l).toArray := let ⟨o, e, r⟩ := hD; ⟨o, hg' _ _ hDX e, r⟩
  refine F'.store rfl fun s₉ F₉ kb ht => h s₉ D l g' F₉ hgg hDg hl ?_ (Nat.le_trans K8.tok ht)
  have : l.length = (Txt.split (Txt.replace (Txt.replace y "\r\n" "\n") "\r" "\n") "\n").length := by rw [← hl, List.length_map]
  rw [this]
  generalize Txt.replace (Txt.replace y "\r\n" "\n") "\r" "\n" = v at n2
  unfold Txt.split
  have h1 := StrLaws.occ_length_le v "\n" 0 v.length (v.length + 1)
  have h2 : ∀ (cuts : List Nat) wd, (partsBetween v cuts wd).length = cuts.length + 1 := fun cuts wd => by simp [partsBetween]
  split
  · exact Nat.le_of_ble_eq_true rfl
  · split
    · exact Nat.le_of_ble_eq_true rfl
    · rw [h2]; omega
end
end Mine
namespace Mine
open PySem PySem.W PyProof.Rows PySem.Builtin.Str

section
variable {prog : Program} {w : World} {A : Around} {E : Value → Shared → Prop}

theorem compAt_walk {s s₂ : Shared} {env : Env} {elt : Expr} {x : Str} {px : Pos} {scope : Scope} {cl : List (Str × Addr)} {I : Addr} {fp : List Addr} {n : Nat} {P : Nat → Value → Prop} {St : Nat → Heap → Prop} {cmc : Str → Option Value} {K : Addr → Heap → List Value → Shared → Prop}
    (J : Nat → Heap → Nat → List Value → Prop) (W : Walks prog w A I fp [I] n P St) (hfl : ∀ i h, St i h → Flds h I) (K0 : Kp s s₂) (hI0 : s.heap.get? I = none) (hst : St 0 s₂.heap) (hfp : ∀ b ∈ fp, b < s₂.heap.objs.size) (hn : n ≤ sizeLine)
    (hcm : ∀ x c, cl.lookup x = some c → s₂.heap.IsCell c (cmc x)) (hinj : ∀ x c y, cl.lookup x = some c → cl.lookup y = some c → x = y) (hcs : ∀ c ∈ cl.map (·.2), ∃ x, cl.lookup x = some c)
    (hkx : ∀ C, (compEnvC scope cl C env).kindOf x = some .local)
    (h0 : ∀ g tk, J 0 g tk []) (hJ : ∀ i h h' tk tk' ys, J i h tk ys → Sub h h' → tk ≤ tk' → J i h' tk' ys)
    (turn : ∀ (E' : Value → Shared → Prop) C X g i v ys m s₁, i < n → P i v → m x = some v → J i g s₁.toks ys → (∀ b o, b ≠ I → b ∉ cl.map (·.2) → s₂.heap.get? b = some o → g.get? b = some o) → LF s₂ X g (compEnvC scope cl C env) m cmc s₁ → ys.length = i →
      wpAny (model prog w) A (eval elt (compEnvC scope cl C env)) (fun y s₃ => Kp s₁ s₃ ∧ ∀ g', Sub g g' → (∀ b o, s₃.heap.get? b = some o → s₁.heap.get? b = none → g'.get? b = some o) → J (i + 1) g' s₃.toks (ys ++ [y])) E' s₁)
    (fin : ∀ D g ys s', Kp s s' → s.heap.get? D = none → LL s'.heap D ys → ys.length = n → Sub g s'.heap → g.get? D = none → J n g s'.toks ys → K D g ys s') :
    CompAt prog w A env elt (.Name x px) scope cl s s₂ (.ref I) K := by
  refine ⟨I, fp, [I], n, St, fun i m => ∃ v, P i v ∧ m x = some v, cmc, J, rfl, K0, fun a ha => by rw [List.mem_singleton.mp ha]; exact hI0, hn, hcm, hinj, hcs,
    fun C hC => Turner.name W (fun i h hs a ha => by rw [List.mem_singleton.mp ha]; exact hfl i h hs) hC (hkx C), hst, hfp, fun b hb => W.sub b hb, h0 _ _, hJ, ?_, fin⟩
  rintro E' C X g i ys m s₁ hi ⟨v, hv, hm⟩ hj hg F hk hlen
  refine turn E' C X g i v ys m s₁ hi hv hm hj (fun b o hb hc e => hg b o (hideAll_get _ e fun hm => ?_)) F hlen
  rcases List.mem_append.mp hm with hm | hm
  · exact hb (List.mem_singleton.mp hm)
  · exact hc hm

/-- a comprehension over a list -/
theorem iter_comp_list {s s₁ : Shared} {env : Env} {elt : Expr} {x : Str} {px : Pos} {scope : Scope} {cl : List (Str × Addr)} {D : Addr} {vs : List Value} {cmc : Str → Option Value} {K : Addr → Heap → List Value → Shared → Prop}
    (J : Nat → Heap → Nat → List Value → Prop) (hh : A.handled = none) (K0 : Kp s s₁) (hl : s₁.heap.IsList D vs.toArray) (hn : vs.length ≤ sizeLine)
    (hcm : ∀ x c, cl.lookup x = some c → s₁.heap.IsCell c (cmc x)) (hinj : ∀ x c y, cl.lookup x = some c → cl.lookup y = some c → x = y) (hcs : ∀ c ∈ cl.map (·.2), ∃ x, cl.lookup x = some c)
    (hkx : ∀ C, (compEnvC scope cl C env).kindOf x = some .local)
    (h0 : ∀ g tk, J 0 g tk []) (hJ : ∀ i h h' tk tk' ys, J i h tk ys → Sub h h' → tk ≤ tk' → J i h' tk' ys)
    (turn : ∀ (E' : Value → Shared → Prop) C X g i v ys m s₂ s', vs[i]? = some v → m x = some v → J i g s'.toks ys → (∀ b o, b ∉ cl.map (·.2) → s₁.heap.get? b = some o → g.get? b = some o) → LF s₂ X g (compEnvC scope cl C env) m cmc s' → s₁.toks ≤ s'.toks → ys.length = i →
      wpAny (model prog w) A (eval elt (compEnvC scope cl C env)) (fun y s₃ => Kp s' s₃ ∧ ∀ g', Sub g g' → (∀ b o, s₃.heap.get? b = some o → s'.heap.get? b = none → g'.get? b = some o) → J (i + 1) g' s₃.toks (ys ++ [y])) E' s')
    (fin : ∀ D g ys s', Kp s s' → s.heap.get? D = none → LL s'.heap D ys → ys.length = vs.length → Sub g s'.heap → g.get? D = none → J vs.length g s'.toks ys → K D g ys s') :
    wpAny (model prog w) A (pyIter (.ref D)) (fun it s₂ => CompAt prog w A env elt (.Name x px) scope cl s s₂ it K) E s₁ := by
  refine wpAny_pyIter_list hl ?_
  have K1 : Kp s₁ { s₁ with heap := s₁.heap.push { cls := .type "list_iterator", data := .fields #[.ref D, .int 0 0] } } := Kp.heap (s := s₁) (fun b o e => Heap.get?_push_of_some _ e) (Nat.le_refl _)
  have hDlt : D < s₁.heap.objs.size := by obtain ⟨o, e, _⟩ := hl; exact Heap.lt_size e
  have hIn : s₁.heap.get? s₁.heap.objs.size = none := Heap.get?_none_of_le (Nat.le_refl _)
  have hIs : s.heap.get? s₁.heap.objs.size = none := by
    cases e : s.heap.get? s₁.heap.objs.size with
    | none => rfl
    | some o => rw [K0.sub _ _ e] at hIn; cases hIn
  have W := Walks.list (prog := prog) (w := w) hh s₁.heap.objs.size D (Nat.ne_of_lt hDlt) vs.toArray
  rw [List.size_toArray] at W
  refine compAt_walk J W (fun i h hs => flds_iter hs.1) (K0.trans K1) hIs ⟨⟨_, Heap.get?_push_size _ rfl, rfl, rfl⟩, hl.at fun o e => K1.sub _ _ e⟩ ?_ hn (fun x c e => (hcm x c e).keeps K1.sub) hinj hcs hkx h0 hJ ?_ fin
  · intro b hb
    show b < (s₁.heap.push _).objs.size
    rw [Heap.size_push]
    rcases List.mem_cons.mp hb with q | hb
    · rw [q]; exact Nat.lt_succ_self _
    · rw [List.mem_singleton.mp hb]; exact Nat.lt_succ_of_lt hDlt
  · intro E' C X g i v ys m s' hi hv hm hj hg F hlen
    exact turn E' C X g i v ys m _ s' (by simpa using hv) hm hj (fun b o hc e => hg b o (ne_some hIn e) hc (K1.sub _ _ e)) F F.tok hlen
end

theorem slice_head (x : Str) : ((Txt.slice x none (some 1)).cps.toList == (Str.ofString ".").cps.toList) = decide (x.cps.toList.head? = some 46) := by
  have hd : (Str.ofString ".").cps.toList = [46] := by decide +kernel
  rw [hd]
  rcases Nat.eq_zero_or_pos x.cps.toList.length with h | h
  · have : x = ⟨#[]⟩ := by
      apply Str.ext'
      exact Array.toList_inj.mp (List.length_eq_zero_iff.mp h)
    subst this
    decide +kernel
  · have e : Txt.slice x none (some 1) = ⟨((x.cps.toList.drop 0).take ((1 : Int) - 0).toNat).toArray⟩ := StrLaws.sliceText_to (x := x) (j := 1) ⟨by decide, by omega⟩
    rw [e]
    generalize x.cps.toList = l at h
    cases l with
    | nil => cases h
    | cons c r =>
      show ([c] == [46]) = decide (some c = some 46)
      by_cases q : c = 46
      · subst q; rfl
      · rw [beq_false_of_ne (by simpa using q)]; simp [q]
end Mine
namespace Mine
open PySem PySem.W PyProof.Rows PySem.Builtin.Str

section
variable {prog : Program} {w : World} {A : Around} {E : Value → Shared → Prop} {s s₀ : Shared} {X : List Addr} {g : Heap} {m cm : Str → Option Value} {L c1 c2 : Addr}

theorem headK {env : Env} {x : Str} {t : Tok} {value : Expr} {p : Pos} {k : Nat} {pos cp : Pos} {Q : Value → Shared → Prop} (hx : x.length ≤ 1000)
    (h : wpAny (model prog w) A (eval value env) (fun o s₁ => o = .str x t ∧ ∀ t' s', Kp s₁ s' → Q (.str (Txt.slice x none (some 1)) t') s') E s) :
    wpAny (model prog w) A (eval (.Subscript value (.Slice none (some (.Constant (.int 1) k cp)) none p) pos) env) Q E s := by
  refine Subscript_ (wpAny_mono h (fun o s₁ h₁ => ?_) fun _ _ e => e)
  obtain ⟨rfl, hq⟩ := h₁
  refine wpAny_Slice (part_none (part_some (constI fun s₂ t₂ k₂ _ _ => part_none ?_)))
  obtain ⟨T, id, hl, hT, hg⟩ := SBH.sliceItem_ns (prog := prog) (w := w) (A := A) (E := E) (s := s₂) (x := x) (t := t) (j := 1) (uj := t₂) (P := fun h' => Sub s₂.heap h') (Q := fun v s' => s₂.toks ≤ s'.toks → Q v s') (fun h' o k b ob e => Heap.get?_push_of_some _ (k b ob e)) Sub.refl
    (fun h' t' k hs htk => hq t' _ (k₂.trans (Kp.heap hs htk))) (by rw [sizeLine_eq]; omega)
  have hs : ∃ ops, subscripted (.Slice none (some (.Constant (.int 1) k cp)) none p) false (.str x t) (.ref s₂.heap.objs.size) = operate ops (getItem (.str x t) (.ref s₂.heap.objs.size)) := ⟨_, by with_unfolding_all rfl⟩
  obtain ⟨ops, ho⟩ := hs
  exact wpAny_with_toks (s := { s₂ with heap := s₂.heap.push { cls := .type "slice", data := .fields #[.none, .int 1 t₂, .none] } }) (n := s₂.toks) (Nat.le_refl _) (wpAny_mono (tail_any hT hl hg ho) (fun _ _ h => h) fun _ _ e _ => e)

theorem StrsAre.get {vs : List Value} {ys : List Str} (h : StrsAre vs ys) {i : Nat} {v : Value} (e : vs[i]? = some v) : ∃ y t, ys[i]? = some y ∧ v = .str y t := by
  induction h generalizing i with
  | nil => cases i <;> cases e
  | cons y t _ ih =>
    cases i with
    | zero => cases e; exact ⟨y, t, rfl, rfl⟩
    | succ i => exact ih e

theorem l17_5 {D : Addr} {l : List (Str × Tok)} {y z : Str} {t : Tok} {Q : Flow → Shared → Prop} (G : Glb g) (hh : A.handled = none) (F : LF s₀ (LX L c1 c2) g (lenv L c1 c2) m cm s) (hr : m "rows" = some (.ref D)) (hs : m "sent" = some (.str z t))
    (hD : g.IsList D (strValues l).toArray) (hl : l.map (·.1) = Txt.split (Txt.replace (Txt.replace y "\r\n" "\n") "\r" "\n") "\n") (hlen : l.length ≤ 1000) (hp : ∀ p ∈ l.map (·.1), p.length ≤ 100) (hz : z.cps.toList = stuff true (crlfs false y.cps.toList))
    (h : ∀ s', LF s₀ (LX L c1 c2) g (lenv L c1 c2) m cm s' → s.toks ≤ s'.toks → Q .next s') :
    wpAny (model prog w) A (exec (st 17 5) (lenv L c1 c2)) Q E s := by
  refine wpAny_If (wpAny_isTrue_Compare1 (F.name rfl hs (Call_method1 rfl rfl (by decide +kernel) (constS fun s₁ t₁ k₁ => strM1 PySem.F.slot_str_join PySem.F.type_str_join (comp_val (cl := []) rfl (by decide +kernel) rfl (by decide +kernel) ((F.kp k₁).name rfl hr ?_))))))
  have F₁ := F.kp k₁
  refine iter_comp_list (cmc := fun _ => none) (fun i _ _ ys => ∃ dots, StrsAre ys dots ∧ dots.map (·.cps.toList) = ((l.map (·.1)).take i).map (fun p => dotted p.cps.toList)) hh Kp.refl (hD.at fun o e => F₁.sub _ _ e) (by simp [strValues, sizeLine_eq]; omega)
    (fun x c e => by cases e) (fun x c y e => by cases e) (fun c hc => by cases hc) (fun C => rfl) (fun _ _ => ⟨[], .nil, rfl⟩) (fun _ _ _ _ _ _ hj _ _ => hj) ?_ ?_
  · rintro E' C X g' i v ys m' s₂ s₃ hv hm ⟨dots, hdo, hdm⟩ hg' F₃ _ hyl
    have hS : StrsAre (strValues l) (l.map (·.1)) := by
      clear hv hD hl hlen hp hdm
      induction l with
      | nil => exact .nil
      | cons a r ih => exact .cons _ _ ih
    obtain ⟨row, tr, hrow, rfl⟩ := StrsAre.get hS hv
    have hrl : row.length ≤ 100 := hp row (List.mem_of_getElem? hrow)
    have G₃ : Glb s₃.heap := G.up fun b o e => F₃.sub _ _ (hg' b o (by simp) (F₁.sub _ _ e))
    refine wpAny_BinOp (wpAny_BinOp (constS fun s₄ t₄ k₄ => call1T ((G₃.up k₄.sub).nameB (by boot_by_name) ⟨rfl, rfl⟩) (wpAny_Compare1 (headK (x := row) (t := tr) (by omega) ((F₃.kp k₄).name rfl hm ⟨rfl, fun t₅ s₅ k₅ => constS fun s₆ t₆ k₆ => P.eq_str ?_⟩)))))
    rw [slice_head]
    refine intBoolI fun s₇ t₇ k₇ => dotsI fun s₈ t₈ k₈ => ?_
    have K8 := (((k₄.trans k₅).trans k₆).trans k₇).trans k₈
    refine (F₃.kp K8).name rfl hm (addS ?_ fun s₉ t₉ k₉ => ⟨K8.trans k₉, fun g'' _ _ => ⟨dots ++ [_], strsAre_snoc hdo _ t₉, ?_⟩⟩)
    · have e1 : (Str.ofString ".").length = 1 := by decide +kernel
      have e2 : Str.empty.length = 0 := rfl
      split <;> omega
    · rw [List.map_append, hdm, List.take_add_one, hrow, List.map_append]
      congr 1
      show [((if decide (row.cps.toList.head? = some 46) = true then Str.ofString "." else Str.empty).cps ++ row.cps).toList] = [dotted row.cps.toList]
      rw [Array.toList_append]
      unfold dotted
      by_cases q : row.cps.toList.head? = some 46
      · rw [if_pos q, decide_eq_true q, if_pos rfl, show (Str.ofString ".").cps.toList = [46] by decide +kernel]; rfl
      · rw [if_neg q, decide_eq_false q, if_neg (by simp)]; rfl
  · rintro D' g' ys s₂ K₂ _ hD' hyl hsub _ ⟨dots, hdo, hdm⟩
    rw [List.take_of_length_le (by simp [strValues])] at hdm
    have hlen2 : dots.length = l.length := by
      have := congrArg List.length hdm
      simpa using this
    have hdl : ∀ d ∈ dots, d.length ≤ 101 := fun d hd => by
      have : d.cps.toList ∈ dots.map (·.cps.toList) := List.mem_map_of_mem hd
      rw [hdm] at this
      obtain ⟨p, hpm, e⟩ := List.mem_map.mp this
      have h1 := hp p hpm
      have h2 : d.length = (dotted p.cps.toList).length := by rw [e]; simp [Str.length]
      have h3 : p.cps.toList.length = p.length := by simp [Str.length]
      rw [h2]
      unfold dotted
      split
      · rw [List.length_cons]; omega
      · omega
    have hsum := StrLaws.sumLen_le dots hdl
    refine joinM hD' hdo ?_ fun t' s₃ K₃ => P.ne_str (wpAny_truthy_bool ?_)
    · have e1 : (Str.ofString "\r\n").length = 2 := by decide +kernel
      rw [e1]
      have : dots.length * 101 ≤ 1000 * 101 := Nat.mul_le_mul_right _ (by omega)
      omega
    · have key := rows_law (text := y) (b13 := "\r") (b10 := "\n") (b1310 := "\r\n") (dots := dots) (by decide +kernel) (by decide +kernel) (by decide +kernel) rfl rfl (by rw [hdm, hl])
      have hne : (z.cps.toList != (Str.join "\r\n" dots).cps.toList) = false := by rw [key, hz]; simp
      rw [hne]
      simp only [Bool.false_eq_true, if_false]
      exact wpAny_execs_nil (h s₃ (F₁.kp (K₂.trans K₃)) (Nat.le_trans k₁.tok (K₂.trans K₃).tok))
end
end Mine
namespace Mine
open PySem PySem.W PyProof.Rows PySem.Builtin.Str

section
variable {prog : Program} {w : World} {A : Around} {E : Value → Shared → Prop} {s s₀ : Shared} {X : List Addr} {g : Heap} {m cm : Str → Option Value} {L c1 c2 : Addr}

theorem l17_6 {z : Str} {t : Tok} {Q : Flow → Shared → Prop} (G : Glb g) (hh : A.handled = none) (h0 : 0 < s₀.toks) (F : LF s₀ (LX L c1 c2) g (lenv L c1 c2) m cm s) (hs : m "sent" = some (.str z t)) (hz : z.length ≤ 1000) (hok : TextOk z.cps.toList)
    (h : ∀ s' D vs g', LF s₀ (LX L c1 c2) g' (lenv L c1 c2) m (upd cm "codes" (.ref D)) s' → Sub g g' → LL g' D vs → MadeInts 1 s'.toks vs (zs z.cps.toList) → Coh vs → s.toks ≤ s'.toks → Q .next s') :
    wpAny (model prog w) A (exec (st 17 6) (lenv L c1 c2)) Q E s := by
  refine wpAny_Assign_Name (comp_val (cl := []) rfl (by decide +kernel) rfl (by decide +kernel) (F.name rfl hs ?_))
  have hasc : z.cps.all (· < 128) = true := by
    rw [← Array.all_toList, List.all_eq_true]
    intro c hc
    exact decide_eq_true (hok c hc).1
  refine wpAny_pyIter_ascii hasc ?_
  have hF := F.tok
  refine compAt_walk (cmc := fun _ => none) (fun i _ tk ys => MadeInts 1 tk ys (zs (z.cps.toList.take i)) ∧ Coh ys) (Walks.strAscii hh _ z t) (fun i h hs => let ⟨o, e, _, d⟩ := hs; ⟨o, e, .inl ⟨_, d⟩⟩)
    (Kp.heap (s := s) (fun b o e => Heap.get?_push_of_some _ e) (Nat.le_refl _)) (Heap.get?_none_of_le (Nat.le_refl _)) ⟨_, Heap.get?_push_size _ rfl, rfl, rfl⟩ ?_ (by rw [sizeLine_eq]; have e1 : z.cps.size = z.length := rfl; omega)
    (fun x c e => by cases e) (fun x c y e => by cases e) (fun c hc => by cases hc) (fun C => rfl) (fun _ _ => ⟨MadeInts.nil, Coh.nil⟩) (fun _ _ _ _ _ _ hj _ ht => ⟨hj.1.mono ht, hj.2⟩) ?_ ?_
  · intro b hb
    show b < (s.heap.push _).objs.size
    rw [Heap.size_push, List.mem_singleton.mp hb]
    exact Nat.lt_succ_self _
  · rintro E' C X g' i v ys m' s₃ hi ⟨c, u, hc, rfl⟩ hm ⟨hM, hC⟩ hg' F₃ hyl
    have G₃ : Glb s₃.heap := G.up fun b o e => F₃.sub _ _ (hg' b o (ne_some (Heap.get?_none_of_le (Nat.le_refl _)) (F.sub _ _ e)) (by simp) (Heap.get?_push_of_some _ (F.sub _ _ e)))
    refine call1B (G₃.nameB (by boot_by_name) ⟨rfl, rfl⟩) (F₃.name rfl hm (ordI fun s₄ t' k₄ h1 h2 => ⟨k₄, fun g'' _ _ => ⟨?_, hC.snoc hM h1⟩⟩))
    have hc' : z.cps.toList[i]? = some c := by simpa using hc
    have e : zs (z.cps.toList.take (i + 1)) = zs (z.cps.toList.take i) ++ [(c : Int)] := by
      unfold zs
      rw [List.take_add_one, hc', List.map_append]
      rfl
    rw [e]
    have ht3 : s.toks ≤ s₃.toks := F₃.tok
    exact hM.snoc (by omega) h2 k₄.tok
  · rintro D g' ys s₂ K₂ hDn hD hyl hsub _ ⟨hM, hC⟩
    rw [show z.cps.size = z.cps.toList.length by simp, List.take_length] at hM
    obtain ⟨g₂, F₂, hgg, hg₂⟩ := F.grow (LX.live F) K₂
    exact F₂.storeC rfl rfl fun s₃ F₃ ht => h s₃ D ys g₂ F₃ hgg (let ⟨q, e⟩ := hD; ⟨q, hg₂ _ _ hDn e⟩) (hM.mono ht) hC (Nat.le_trans K₂.tok ht)
end
end Mine
namespace Mine
open PySem PySem.W PyProof.Rows PySem.Builtin.Str

section
variable {prog : Program} {w : World} {A : Around} {E : Value → Shared → Prop} {s s₀ : Shared} {X : List Addr} {g : Heap} {m cm : Str → Option Value} {L c1 c2 : Addr} {env : Env}

theorem enum_item2 {e it l : Addr} {i : Nat} {old v : Value} {vs : List Value} {xi xv : Str} {pi pv pt : Pos} {x1 : Nat} {P : Shared → Prop} {Q : Shared → Prop} (hh : A.handled = none)
    (F : LF s₀ X g env m cm s) (he : IsEnum s.heap e it i old) (hit : s.heap.IsListIter it l i) (hl₁ : s.heap.IsList l vs.toArray) (heX : e ∈ X) (hiX : it ∈ X) (hne : e ≠ it) (hv : vs[i]? = some v)
    (hxi : env.kindOf xi = some .local) (hxv : env.kindOf xv = some .local)
    (h : ∀ s' t, LF s₀ X g env (upd (upd m xi (.int i t)) xv v) cm s' → IsEnum s'.heap e it ((i + 1 : Nat) : Int) v → s'.heap.IsListIter it l (i + 1) → s.toks ≤ t → t < s'.toks →
      (∀ b o, b ≠ env.locals → b ≠ e → b ≠ it → s.heap.get? b = some o → s'.heap.get? b = some o) → Q s') :
    wpAny (model prog w) A (pyNext (.ref e)) (fun r s₁ => match r with
      | none => P s₁
      | some v => wpAny (model prog w) A (letOwnedTupleGo (.Tuple [.Name xi pi, .Name xv pv] x1 pt) (.ref e) v) (fun _ s₂ => wpAny (model prog w) A (assign (.Tuple [.Name xi pi, .Name xv pv] x1 pt) env v) (fun _ s₃ => Q s₃) E s₂) E s₁) E s := by
  have heH : e < s.heap.objs.size := Heap.lt_size he
  have hiH : it < s.heap.objs.size := by obtain ⟨o, ho, _⟩ := id hit; exact Heap.lt_size ho
  refine wpAny_pyNext_enum_item he hit hl₁ (by simpa using hv) hne fun h₁ heo hit₁ ht₁ hz₁ hk₁ => ?_
  have Y : ∀ a ∈ [e, it], a ∈ X ∧ Flds s.heap a := by
    intro a ha
    rcases List.mem_cons.mp ha with rfl | ha
    · exact ⟨heX, flds_enum he⟩
    · rw [List.mem_singleton.mp ha]; exact ⟨hiX, flds_iter hit⟩
  have F₁ := F.keepBut [e, it] Y (h' := h₁) (tk := s.toks + 1) (fun b o hb x => hk₁ b o (fun q => hb (q ▸ .head _)) (fun q => hb (q ▸ .tail _ (.head _))) x) (Nat.le_succ _)
  refine wpAny_letOwnedTupleGo_enum heo fun h₂ he₂ hs₂ => ?_
  have F₂ := F₁.keepBut [e] (by intro a ha; rw [List.mem_singleton.mp ha]; exact ⟨heX, ⟨_, heo, .inl ⟨_, rfl⟩⟩⟩) (h' := h₂) (tk := s.toks + 1) (fun b o hb x => hs₂.extBut b o (fun q => hb (q ▸ .head _)) x) (Nat.le_refl _)
  replace hs₂ : Heap.SameBut e h₁ h₂ := hs₂
  have ht₂ : h₂.IsTuple s.heap.objs.size #[.int i s.toks, v] := ⟨_, (hs₂.2 _ (Nat.ne_of_gt heH)).trans ht₁, rfl, _, rfl⟩
  have hz₂ : h₂.objs.size = s.heap.objs.size + 1 := hs₂.1.trans hz₁
  refine wpAny_assign_Tuple hh ht₂ rfl rfl fun h₃ hx₃ => ?_
  replace hx₃ : Heap.ExtBut h₂.objs.size h₂ h₃ := hx₃
  have up₃ : Sub h₂ h₃ := fun b o x => hx₃ b o (Nat.ne_of_lt (Heap.lt_size x)) x
  have F₃ := F₂.kp (Kp.heap (s := { s with heap := h₂, toks := s.toks + 1 }) (h := h₃) (k := s.toks + 1) up₃ (Nat.le_refl _))
  show wpAny _ A (do holding [v] (assign (.Name xi pi) env (.int i s.toks)); do holding [] (assign (.Name xv pv) env v); pure ()) _ _ _
  refine wpAny_bind (wpAny_holding (F₃.assign hxi fun s₄ F₄ kb₄ ht₄ => wpAny_bind (wpAny_holding (F₄.assign hxv fun s₅ F₅ kb₅ ht₅ => wpAny_pure ?_))))
  have toL : ∀ b o, b ≠ env.locals → h₂.get? b = some o → s₅.heap.get? b = some o := fun b o hb x => kb₅ b o hb (kb₄ b o hb (up₃ b o x))
  refine h s₅ s.toks F₅ ?_ ?_ (Nat.le_refl _) ?_ fun b o hb hbe hbi x => toL b o hb (hs₂.extBut b o hbe (hk₁ b o hbe hbi x))
  · have q : ((i + 1 : Nat) : Int) = (i : Int) + 1 := by push_cast; rfl
    rw [q]
    exact toL _ _ (F.notLoc (flds_enum he)) he₂
  · exact (hit₁.extBut hs₂.extBut (Ne.symm hne)).at fun o x => toL _ _ (F.notLoc (flds_iter hit)) x
  · exact Nat.lt_of_lt_of_le (Nat.lt_succ_self s.toks) (Nat.le_trans ht₄ ht₅)

theorem enum_end2 {e it l : Addr} {i : Nat} {old : Value} {vs : List Value} {K : Value → Shared → Prop} {P : Shared → Prop} (hh : A.handled = none)
    (F : LF s₀ X g env m cm s) (he : IsEnum s.heap e it i old) (hit : s.heap.IsListIter it l i) (hl₁ : s.heap.IsList l vs.toArray) (hiX : it ∈ X) (hv : vs[i]? = none)
    (h : ∀ s', LF s₀ X g env m cm s' → (∀ b o, b ≠ it → s.heap.get? b = some o → s'.heap.get? b = some o) → s.toks ≤ s'.toks → P s') :
    wpAny (model prog w) A (pyNext (.ref e)) (fun r s₁ => match r with | none => P s₁ | some v => K v s₁) E s := by
  refine wpAny_pyNext_enum_end hh he hit hl₁ (by simpa using hv) fun h' hx => h _ ?_ (fun b o hb x => hx b o hb x) (Nat.le_refl _)
  exact F.keepBut [it] (by intro a ha; rw [List.mem_singleton.mp ha]; exact ⟨hiX, flds_iter hit⟩) (fun b o hb x => hx b o (fun q => hb (q ▸ .head _)) x) (Nat.le_refl _)

theorem turner_enum {xi xv : Str} {pi pv pt : Pos} {x1 : Nat} {e it l : Addr} {vs : List Value} (hh : A.handled = none) (hne : e ≠ it) (hle : l ≠ e) (hli : l ≠ it) (hL : env.locals ∉ [e, it, l]) (hxi : env.kindOf xi = some .local) (hxv : env.kindOf xv = some .local) (hx : xi ≠ xv) :
    Turner prog w A env (.Tuple [.Name xi pi, .Name xv pv] x1 pt) e [e, it, l] [e, it] vs.length (fun i h => (∃ old, IsEnum h e it i old) ∧ h.IsListIter it l i ∧ h.IsList l vs.toArray)
      (fun i m => ∃ (t : Nat) (v : Value), vs[i]? = some v ∧ m xi = some (.int i t) ∧ m xv = some v) where
  live := by
    rintro i h ⟨⟨old, he⟩, hit, _⟩ a ha
    rcases List.mem_cons.mp ha with q | ha
    · rw [q]; exact ⟨_, he⟩
    · rw [List.mem_singleton.mp ha]; obtain ⟨o, e', _⟩ := hit; exact ⟨o, e'⟩
  frame := by
    rintro i h h' ⟨⟨old, he⟩, hit, hl⟩ hk
    exact ⟨⟨old, hk _ (by simp) _ he⟩, hit.at fun o x => hk _ (by simp) o x, hl.at fun o x => hk _ (by simp) o x⟩
  item := by
    rintro s₀ X g m cm s i P Q E hi F hY ⟨⟨old, he⟩, hit, hl⟩ hq
    have hv : vs[i]? = some vs[i] := List.getElem?_eq_getElem hi
    refine enum_item2 (P := P) (Q := Q) hh F he hit hl (hY e (by simp)) (hY it (by simp)) hne hv hxi hxv fun s' t F'' he' hit' h1 h2 hk => ?_
    refine hq _ s' ⟨t, _, hv, ?_, if_pos rfl⟩ F'' ⟨⟨_, he'⟩, hit', hl.at fun o x => hk _ _ ?_ hle hli x⟩ (fun b o b1 b2 x => hk b o b1 (fun q => b2 (q ▸ .head _)) (fun q => b2 (q ▸ .tail _ (.head _))) x) (Nat.le_of_lt (Nat.lt_of_le_of_lt h1 h2))
    · show (if xi = xv then _ else if xi = xi then _ else _) = _
      rw [if_neg hx, if_pos rfl]
    · exact fun q => hL (q ▸ (by simp))
  done := by
    rintro s₀ X g m cm s K P E F hY ⟨⟨old, he⟩, hit, hl⟩ hq
    exact enum_end2 (K := K) (P := P) hh F he hit hl (hY it (by simp)) (List.getElem?_eq_none (Nat.le_refl _)) fun s' F' hk ht => hq s' F' (fun b o hb x => hk b o (fun q => hb (q ▸ (by simp))) x) ht
  self := by
    rintro i s Q E ⟨⟨old, he⟩, _, _⟩ h
    exact wpAny_pyIter_enum he h

def bsOf (C : List Nat) : List Nat := (List.range C.length).map fun k => C.getD k 0 + k % 2 * 128
theorem bsOf_mod {C : List Nat} (h : ∀ c ∈ C, c < 128) : (bsOf C).map (· % 128) = C.map (· % 128) := by
  unfold bsOf
  rw [List.map_map]
  apply List.ext_getElem (by simp)
  intro i h1 h2
  have hi : i < C.length := by simpa using h2
  have := h C[i] (List.getElem_mem hi)
  simp [hi]
theorem bsOf_snoc {C : List Nat} {i : Nat} (hi : i < C.length) : (bsOf C).take (i + 1) = (bsOf C).take i ++ [C[i] + i % 2 * 128] := by
  have hl : i < (bsOf C).length := by simp [bsOf, hi]
  rw [List.take_succ_eq_append_getElem hl]
  congr 2
  simp [bsOf, hi]

theorem l17_7 {Dc : Addr} {vs : List Value} {C nums : List Nat} {Q : Flow → Shared → Prop} (G : Glb g) (hh : A.handled = none) (hroom : A.depth + 1 < recursionLimit) (hfr : A.frames = some [lenv L c1 c2]) (F : LF s₀ (LX L c1 c2) g (lenv L c1 c2) m cm s)
    (hc : cm "codes" = some (.ref Dc)) (hD : LL g Dc vs) (hI : IntsAre vs (zs C)) (hC : ∀ c ∈ C, c < 128) (hz : C.length ≤ 1000) (hr : ReadsTo C nums)
    (h : ∀ s' D us g', LF s₀ (LX L c1 c2) g' (lenv L c1 c2) (upd m "numbers" (.ref D)) cm s' → Sub g g' → g'.IsList D us.toArray → MadeInts s.toks s'.toks us (zs nums) → Coh us → s.toks ≤ s'.toks → Q .next s') :
    wpAny (model prog w) A (exec (st 17 7) (lenv L c1 c2)) Q E s := by
  have G₁ := G.up F.sub
  have hDs := hD.up F.sub
  have hlen : vs.length = C.length := by have := hI.length; simpa using this
  have hDlt : Dc < s.heap.objs.size := by obtain ⟨n, e⟩ := hDs; exact Heap.lt_size e
  refine wpAny_Assign_Name (call1F (name := "_law_read") (k := 15) (c := 96) (G₁.nameU (fun mg n => n.read) ⟨rfl, rfl⟩) (comp_val (cl := []) rfl (by decide +kernel) rfl (by decide +kernel) (call1T (G₁.nameB (by boot_by_name) ⟨rfl, rfl⟩) (F.nameC rfl rfl hc (call_enumerate_list hDs.is fun h₂ he₂ hit₂ hz₂ hk₂ => ?_)))))
  have K₂ : Kp s { s with heap := h₂ } := Kp.heap (s := s) hk₂ (Nat.le_refl _)
  refine wpAny_pyIter_enum he₂ ?_
  refine ⟨_, [s.heap.objs.size + 1, s.heap.objs.size, Dc], [s.heap.objs.size + 1, s.heap.objs.size], vs.length, fun i h => (∃ old, IsEnum h (s.heap.objs.size + 1) s.heap.objs.size i old) ∧ h.IsListIter s.heap.objs.size Dc i ∧ h.IsList Dc vs.toArray,
    _, fun _ => none, fun i _ tk ys => IntsAre ys (zs ((bsOf C).take i)), rfl, K₂, ?_, by rw [sizeLine_eq]; omega, (fun x c e => by cases e), (fun x c y e => by cases e), (fun c hc => by cases hc),
    (fun C' hC' => turner_enum hh (Nat.succ_ne_self _) (Nat.ne_of_lt (Nat.lt_succ_of_lt hDlt)) (Nat.ne_of_lt hDlt) hC' rfl rfl (by decide : Str.ofString "k" ≠ Str.ofString "code")), ⟨⟨_, he₂⟩, hit₂, hDs.is.at fun o e => hk₂ _ _ e⟩, ?_, ?_, .nil, fun _ _ _ _ _ _ hj _ _ => hj, ?_, ?_⟩
  · intro a ha
    rcases List.mem_cons.mp ha with q | ha
    · rw [q]; exact Heap.get?_none_of_le (Nat.le_succ _)
    · rw [List.mem_singleton.mp ha]; exact Heap.get?_none_of_le (Nat.le_refl _)
  · intro b hb
    show b < h₂.objs.size
    rw [hz₂]
    rcases List.mem_cons.mp hb with q | hb
    · rw [q]; exact Nat.lt_succ_self _
    rcases List.mem_cons.mp hb with q | hb
    · rw [q]; exact Nat.lt_succ_of_lt (Nat.lt_succ_self _)
    · rw [List.mem_singleton.mp hb]; exact Nat.lt_succ_of_lt (Nat.lt_succ_of_lt hDlt)
  · intro b hb
    rcases List.mem_cons.mp hb with q | hb
    · rw [q]; simp
    · rw [List.mem_singleton.mp hb]; simp
  · rintro E' C' X' g' i ys m' s₃ hi ⟨t, v, hv, hmk, hmc⟩ hj hg' F₃ _ hyl
    obtain ⟨c, u, hc', rfl⟩ := ints_at hI hv
    have hiC : i < C.length := by omega
    have hcC : c = (C[i] : Int) := by
      have : (zs C)[i]? = some (C[i] : Int) := by unfold zs; rw [List.getElem?_map, List.getElem?_eq_getElem hiC]; rfl
      rw [this] at hc'; cases hc'; rfl
    subst hcC
    refine wpAny_BinOp (F₃.name rfl hmc (wpAny_BinOp (wpAny_BinOp (F₃.name rfl hmk (constI fun s₄ t₄ k₄ _ _ => modI (by decide) fun s₅ t₅ k₅ _ _ => constI fun s₆ t₆ k₆ _ _ => mulI (IntMulOk.of_right (by decide)) fun s₇ t₇ k₇ _ _ => addI fun s₈ t₈ k₈ _ _ => ⟨(((k₄.trans k₅).trans k₆).trans k₇).trans k₈, fun g'' _ _ => ?_⟩)))))
    have e : zs ((bsOf C).take (i + 1)) = zs ((bsOf C).take i) ++ [(C[i] : Int) + ((i : Int).fmod 2) * 128] := by
      rw [bsOf_snoc hiC]
      unfold zs
      rw [List.map_append, show ((i : Int).fmod 2) = ((i % 2 : Nat) : Int) from fmod_nat i 2 (by decide)]
      rfl
    show IntsAre _ (zs ((bsOf C).take (i + 1)))
    rw [e]
    exact IntsAre.snoc hj _ _
  · rintro D g' ys s₃ K₃ hDn hDl hyl hsub _ hj
    refine ⟨(G₁.up K₃.sub).fRead, ?_⟩
    have hbl : (bsOf C).length = C.length := by simp [bsOf]
    rw [List.take_of_length_le (by omega)] at hj
    have F₃ := F.kp K₃
    obtain ⟨oL, es, ep, hoL, hdL, _⟩ := id F₃.ns
    have hoL' : s₃.heap.get? L = some oL := hoL
    have hDX : D ≠ L := by
      rintro rfl
      obtain ⟨o, _, _, e, _⟩ := F.ns
      have e' : s.heap.get? D = some o := e
      rw [hDn] at e'; cases e'
    have hB : Sub (hideAll s₃.heap [L]) s₃.heap := fun b o e => of_hideAll _ e
    have gB : Sub g (hideAll s₃.heap [L]) := fun b o e => hideAll_get _ (F₃.sub b o e) fun hm => by
      rw [List.mem_singleton.mp hm, F₃.off L (.head _)] at e; cases e
    have hDB : LL (hideAll s₃.heap [L]) D ys := let ⟨n, e⟩ := hDl; ⟨n, hideAll_get _ e fun hm => hDX (List.mem_singleton.mp hm)⟩
    have hfun : s₃.heap.FunFrames (hideAll s₃.heap [L]) [lenv L c1 c2] := by
      refine ⟨(fun q => by cases q), ⟨L, oL, rfl, hideAll_none _ (.head _), hoL', fun vs e => ?_⟩, trivial⟩
      rw [hdL] at e; cases e
    refine call_read (bs := bsOf C) (nums := nums) (G.up gB) hh hroom hfr hDB.is hj (by omega) (readsTo_congr hr (bsOf_mod hC)) hB hfun fun D' us h' tk htk hsubB hup hD'n hD'l hM' hCo => ?_
    have F₄ : LF s₀ (LX L c1 c2) g (lenv L c1 c2) m cm { s₃ with heap := h', toks := tk } := { F₃ with
      same := by obtain ⟨hh', tk', rfl⟩ := F₃.same; exact ⟨h', tk, rfl⟩
      tok := Nat.le_trans F₃.tok htk
      sub := gB.trans hsubB
      ns := hup.ns F₃.ns
      cell := fun n c e => by
        obtain ⟨o, ho, hd⟩ := F₃.cell n c e
        exact ⟨o, hsubB _ _ (hideAll_get _ ho fun hm => F₃.cellne e (List.mem_singleton.mp hm)), hd⟩ }
    obtain ⟨g₂, F₅, hgg, hg₂⟩ := F₄.ground
    have hD'X : D' ∉ LX L c1 c2 := LX.flds F₄ (flds_list hD'l)
    refine F₅.store rfl fun s₆ F₆ kb ht => h s₆ D' us g₂ F₆ hgg (let ⟨o, e, r⟩ := hD'l; ⟨o, hg₂ _ _ hD'X e, r⟩) ?_ hCo (Nat.le_trans K₃.tok (Nat.le_trans htk ht))
    exact ⟨hM'.1, fun i t hm => ⟨Nat.le_trans K₃.tok (hM'.2 i t hm).1, Nat.lt_of_lt_of_le (hM'.2 i t hm).2 ht⟩⟩
end
end Mine
namespace Mine
open PySem PySem.W PyProof.Rows

section
variable {prog : Program} {w : World} {A : Around} {E : Value → Shared → Prop} {R : Result → Shared → Prop} {s : Shared}

theorem compTurn_in (elt t0 i0 t1 i1 : Expr) (scope : Scope) (pos : Pos) (it acc : Value) (env : Env) :
    compTurn (.ListComp elt [⟨t0, i0, [], 0⟩, ⟨t1, i1, [], 0⟩] scope pos) 1 it acc env = (standAt i1.pos >>= fun _ => pyNext it >>= fun r => match r with
      | none => pure (.done .next)
      | some v => letOwnedTupleGo t1 it v >>= fun _ => assign t1 env v >>= fun _ =>
        (eval elt env >>= fun x => call (.builtin "list.append") [acc, x] >>= fun _ => pure ()) >>= fun _ =>
          again (.compLoop (.ListComp elt [⟨t0, i0, [], 0⟩, ⟨t1, i1, [], 0⟩] scope pos) 1 it acc env)) := by rfl
theorem compTurn_out (elt t0 i0 t1 i1 : Expr) (scope : Scope) (pos : Pos) (it acc : Value) (env : Env) :
    compTurn (.ListComp elt [⟨t0, i0, [], 0⟩, ⟨t1, i1, [], 0⟩] scope pos) 0 it acc env = (standAt i0.pos >>= fun _ => pyNext it >>= fun r => match r with
      | none => pure (.done .next)
      | some v => letOwnedTupleGo t0 it v >>= fun _ => assign t0 env v >>= fun _ =>
        (eval i1 env >>= fun x => standAt i1.pos >>= fun _ => foldedSetIterable i1 env x >>= fun x => holding [x] (pyIter x) >>= fun it' =>
          runOwn (.compStart (.ListComp elt [⟨t0, i0, [], 0⟩, ⟨t1, i1, [], 0⟩] scope pos) 1 it' acc env) env >>= fun _ =>
          again (.compLoop (.ListComp elt [⟨t0, i0, [], 0⟩, ⟨t1, i1, [], 0⟩] scope pos) 0 it acc env))) := by rfl

theorem compStart1 {elt t0 i0 t1 i1 scope pos it acc env}
    (h0 : codeAny (model prog w) A (.compLoop (.ListComp elt [⟨t0, i0, [], 0⟩, ⟨t1, i1, [], 0⟩] scope pos) 1 it acc env) R s)
    (h : wpAny (model prog w) A (pyIter it) (fun it' s' => codeAny (model prog w) A (.compLoop (.ListComp elt [⟨t0, i0, [], 0⟩, ⟨t1, i1, [], 0⟩] scope pos) 1 it' acc env) R s')
      (notedBy (model prog w) A env fun x s' => R (.error x) s') s) :
    codeAny (model prog w) A (.compStart (.ListComp elt [⟨t0, i0, [], 0⟩, ⟨t1, i1, [], 0⟩] scope pos) 1 it acc env) R s := by
  refine codeAny_of_tree ?_
  show wpAny _ _ ((compStart (.ListComp elt [⟨t0, i0, [], 0⟩, ⟨t1, i1, [], 0⟩] scope pos) 1 it acc env).onRaise (fun x => do noteFrame x env; standAt theWindowsPlace)) _ _ s
  refine wpAny_notedAt ?_
  unfold compStart
  show wpAny _ _ (ask >>= _) _ _ s
  refine wpAny_bind (wpAny_askSetting (wpAny_ite ?_))
  split
  · first
      | exact wpAny_bind (wpAny_pure (wpAny_pure (And.intro rfl h0)))
      | exact wpAny_pure (And.intro rfl h0)
  · first
      | exact wpAny_bind (wpAny_rule (wpAny_bind (wpAny_standAt (wpAny_bind (wpAny_mono h (fun it' s' h' => wpAny_pure (And.intro rfl h')) fun _ _ x => x)))))
      | (refine wpAny_bind (wpAny_rule ?_); show wpAny _ _ (standAt i1.pos >>= _) _ _ s; exact wpAny_bind (wpAny_standAt (wpAny_bind (wpAny_mono h (fun it' s' h' => wpAny_pure (And.intro rfl h')) fun _ _ x => x))))

theorem loop_in {elt t0 i0 t1 i1 : Expr} {scope : Scope} {pos : Pos} {it acc : Value} {env : Env} (I : Nat → Shared → Prop)
    (turn : ∀ n s, I n s → wpAny (model prog w) A (pyNext it) (fun r s₁ => match r with
      | none => R (.ok .next) s₁
      | some v => wpAny (model prog w) A (letOwnedTupleGo t1 it v) (fun _ s₁' => wpAny (model prog w) A (assign t1 env v) (fun _ s₂ =>
          wpAny (model prog w) A (eval elt env) (fun x s₄ =>
              wpAny (model prog w) A (call (.builtin "list.append") [acc, x]) (fun _ s₅ => ∃ m, m < n ∧ I m s₅) (notedBy (model prog w) A env fun e s' => R (.error e) s') s₄) (notedBy (model prog w) A env fun e s' => R (.error e) s') s₂)
          (notedBy (model prog w) A env fun e s' => R (.error e) s') s₁') (notedBy (model prog w) A env fun e s' => R (.error e) s') s₁) (notedBy (model prog w) A env fun e s' => R (.error e) s') s)
    (n : Nat) (h : I n s) : codeAny (model prog w) A (.compLoop (.ListComp elt [⟨t0, i0, [], 0⟩, ⟨t1, i1, [], 0⟩] scope pos) 1 it acc env) R s := by
  refine codeAny_loop rfl I (fun n s hI => ?_) n h
  show wpAny _ A ((compTurn (.ListComp elt [⟨t0, i0, [], 0⟩, ⟨t1, i1, [], 0⟩] scope pos) 1 it acc env).onRaise (fun x => do noteFrame x env; theTreesLotGoes x)) _ _ s
  refine wpAny_noted ?_
  rw [compTurn_in]
  refine wpAny_bind (wpAny_standAt (wpAny_bind (wpAny_mono (turn n s hI) (fun r s₁ h₁ => ?_) fun _ _ h' => h')))
  cases r with
  | none => exact wpAny_pure h₁
  | some v =>
    refine wpAny_bind (wpAny_mono h₁ (fun _ s₁' h₁' => ?_) fun _ _ h' => h')
    refine wpAny_bind (wpAny_mono h₁' (fun _ s₂ h₂ => ?_) fun _ _ h' => h')
    exact wpAny_bind (wpAny_bind (wpAny_mono h₂ (fun x s₄ h₄ => wpAny_bind (wpAny_mono h₄ (fun _ s₅ h₅ => wpAny_pure (wpAny_pure ⟨rfl, h₅⟩)) fun _ _ h' => h')) fun _ _ h' => h'))

theorem loop_out {elt t0 i0 t1 i1 : Expr} {scope : Scope} {pos : Pos} {it acc : Value} {env : Env} (I : Nat → Shared → Prop) (hs : ∀ x, foldedSetIterable i1 env x = pure x)
    (turn : ∀ n s, I n s → wpAny (model prog w) A (pyNext it) (fun r s₁ => match r with
      | none => R (.ok .next) s₁
      | some v => wpAny (model prog w) A (letOwnedTupleGo t0 it v) (fun _ s₁' => wpAny (model prog w) A (assign t0 env v) (fun _ s₂ =>
          wpAny (model prog w) A (eval i1 env) (fun x s₃ => wpAny (model prog w) A (pyIter x) (fun it' s₄ =>
            codeAny (model prog w) A (.compStart (.ListComp elt [⟨t0, i0, [], 0⟩, ⟨t1, i1, [], 0⟩] scope pos) 1 it' acc env) (fun r s₅ => match r with
              | .ok _ => ∃ m, m < n ∧ I m s₅
              | .error e => cameBackBy (model prog w) A env (notedBy (model prog w) A env fun e s' => R (.error e) s') e s₅) s₄)
              (notedBy (model prog w) A env fun e s' => R (.error e) s') s₃) (notedBy (model prog w) A env fun e s' => R (.error e) s') s₂)
          (notedBy (model prog w) A env fun e s' => R (.error e) s') s₁') (notedBy (model prog w) A env fun e s' => R (.error e) s') s₁) (notedBy (model prog w) A env fun e s' => R (.error e) s') s)
    (n : Nat) (h : I n s) : codeAny (model prog w) A (.compLoop (.ListComp elt [⟨t0, i0, [], 0⟩, ⟨t1, i1, [], 0⟩] scope pos) 0 it acc env) R s := by
  refine codeAny_loop rfl I (fun n s hI => ?_) n h
  show wpAny _ A ((compTurn (.ListComp elt [⟨t0, i0, [], 0⟩, ⟨t1, i1, [], 0⟩] scope pos) 0 it acc env).onRaise (fun x => do noteFrame x env; theTreesLotGoes x)) _ _ s
  refine wpAny_noted ?_
  rw [compTurn_out]
  refine wpAny_bind (wpAny_standAt (wpAny_bind (wpAny_mono (turn n s hI) (fun r s₁ h₁ => ?_) fun _ _ h' => h')))
  cases r with
  | none => exact wpAny_pure h₁
  | some v =>
    refine wpAny_bind (wpAny_mono h₁ (fun _ s₁' h₁' => ?_) fun _ _ h' => h')
    refine wpAny_bind (wpAny_mono h₁' (fun _ s₂ h₂ => ?_) fun _ _ h' => h')
    refine wpAny_bind (wpAny_mono h₂ (fun x s₃ h₃ => ?_) fun _ _ h' => h')
    refine wpAny_bind (wpAny_standAt (wpAny_bind (wpAny_of_eq (hs x) (wpAny_bind (wpAny_holding (wpAny_mono h₃ (fun it' s₄ h₄ => ?_) fun _ _ h' => h'))))))
    refine wpAny_bind (wpAny_runOwn (h := none) (codeAny_mono h₄ fun r s₅ h₅ => ?_))
    cases r with
    | ok f => exact wpAny_pure ⟨rfl, h₅⟩
    | error e => exact h₅

theorem comp_shell {elt target iter : Expr} {ifs : List Expr} {rest : List Comprehension} {scope : Scope} {cl : List (Str × Addr)} {pos : Pos} {env : Env} {I : Addr} {RR : Value → Addr → Result → Shared → Prop} (hcell : ∀ y ∈ scope.names, y.2 ≠ .cell) (hkind : scope.kind = .function)
    (self : ∀ (s' : Shared) (Q : Value → Shared → Prop) (E : Value → Shared → Prop), Sub s.heap s'.heap → Q (.ref I) s' → wpAny (model prog w) A (pyIter (.ref I)) Q E s')
    (loop : ∀ C D h₁ m, D ≠ C → s.heap.get? C = none → s.heap.get? D = none → s.heap.objs.size ≤ C → s.heap.objs.size ≤ D → Sub s.heap h₁ → LL h₁ D [] → h₁.Ns C m →
      codeAny (model prog w) A (.compLoop (.ListComp elt (⟨target, iter, ifs, 0⟩ :: rest) scope pos) 0 (.ref I) (.ref D) (compEnvC scope cl C env)) (RR (.ref D) C) { s with heap := h₁ }) :
    wpAny (model prog w) A (newList []) (fun acc s₃ => wpAny (model prog w) A (newFunctionEnv scope env.globals cl [] env.qual none .none (some env)) (fun cenv s₄ =>
      codeAny (model prog w) A (.compStart (.ListComp elt (⟨target, iter, ifs, 0⟩ :: rest) scope pos) 0 (.ref I) acc { cenv with scope := relabel scope env }) (RR acc cenv.locals) s₄) E s₃) E s := by
  refine wpAny_newObj_type (wpAny_newFunctionEnv hcell (by intro y hy; simp at hy) (fun h₁ hns₁ hsb₁ => ?_) hkind)
  dsimp only at hns₁ hsb₁ ⊢
  generalize hH2 : s.heap.push { cls := .type "list", dict := none, data := .seq ([] : List Value).toArray } = H2 at hns₁ hsb₁ ⊢
  have hC : H2.objs.size = s.heap.objs.size + 1 := by rw [← hH2, Heap.size_push]
  have hDC : s.heap.objs.size ≠ H2.objs.size := by rw [hC]; exact Nat.ne_of_lt (Nat.lt_succ_self _)
  have below : ∀ b, b < s.heap.objs.size → b ≠ H2.objs.size ∧ b ≠ s.heap.objs.size := fun b hb => ⟨by rw [hC]; exact Nat.ne_of_lt (Nat.lt_succ_of_lt hb), Nat.ne_of_lt hb⟩
  have old : Sub s.heap h₁ := fun b o e => hsb₁.extBut b o (below b (Heap.lt_size e)).1 (Heap.get?_push_of_some _ (hH2 ▸ Heap.get?_push_of_some _ e))
  have hacc : LL h₁ s.heap.objs.size [] := ⟨_, hsb₁.extBut _ _ hDC (Heap.get?_push_of_some _ (hH2 ▸ Heap.get?_push_size _ rfl))⟩
  have hCs : s.heap.objs.size ≤ H2.objs.size := by rw [hC]; exact Nat.le_succ _
  have lp := loop H2.objs.size s.heap.objs.size h₁ _ hDC (Heap.get?_none_of_le hCs) (Heap.get?_none_of_le (Nat.le_refl _)) hCs (Nat.le_refl _) old hacc hns₁
  exact codeAny_compStart_list lp (self { s with heap := h₁ } _ _ old lp)
end
end Mine
namespace Mine
open PySem PySem.W PyProof.Rows

section
variable {prog : Program} {w : World} {A : Around} {E : Value → Shared → Prop} {s s₀ : Shared} {X : List Addr} {g : Heap} {m cm : Str → Option Value} {L c1 c2 : Addr} {env : Env}

/-- the inner run: all of a list is put behind the row -/
theorem inner_run {t0 i0 i1 : Expr} {scope : Scope} {pos p1 p2 : Pos} {x : Str} {I2 D D' : Addr} {vs ys : List Value} {R : Result → Shared → Prop} (hh : A.handled = none) (F : LF s₀ X g env m cm s) (hI : s.heap.IsListIter I2 D' 0) (hl : s.heap.IsList D' vs.toArray)
    (hD : LL s.heap D ys) (hIX : I2 ∈ X) (hDX : D ∈ X) (hDI : D ≠ I2) (hD'I : D' ≠ I2) (hD'D : D' ≠ D) (hx : env.kindOf x = some .local) (hz : ys.length + vs.length ≤ 100000) (hd : (x == ("__debug__" : Str)) = false)
    (h : ∀ m' s', LF s₀ X g env m' cm s' → LL s'.heap D (ys ++ vs) → (∀ b o, b ≠ env.locals → b ≠ D → b ≠ I2 → s.heap.get? b = some o → s'.heap.get? b = some o) → s.toks ≤ s'.toks → R (.ok .next) s') :
    codeAny (model prog w) A (.compLoop (.ListComp (.Name x p1) [⟨t0, i0, [], 0⟩, ⟨.Name x p2, i1, [], 0⟩] scope pos) 1 (.ref I2) (.ref D) env) R s := by
  have hL1 : I2 ≠ env.locals := F.notLoc (flds_iter hI)
  have hL2 : D' ≠ env.locals := F.notLoc (flds_list hl)
  have hL3 : D ≠ env.locals := F.notLoc (flds_LL hD)
  have W := Walks.list (prog := prog) (w := w) hh I2 D' hD'I vs.toArray
  have T := Turner.name (px := p2) W (fun i h hs a ha => by rw [List.mem_singleton.mp ha]; exact flds_iter hs.1) (by
    intro hm
    rcases List.mem_cons.mp hm with q | hm
    · exact hL1 q.symm
    · exact hL2 (List.mem_singleton.mp hm).symm) hx
  refine loop_in (fun k s' => ∃ j m', k = vs.length - j ∧ j ≤ vs.length ∧ LF s₀ X g env m' cm s' ∧ (s'.heap.IsListIter I2 D' j ∧ s'.heap.IsList D' vs.toArray) ∧ LL s'.heap D (ys ++ vs.take j) ∧
    (∀ b o, b ≠ env.locals → b ≠ D → b ≠ I2 → s.heap.get? b = some o → s'.heap.get? b = some o) ∧ s.toks ≤ s'.toks) ?_ vs.length ⟨0, m, rfl, Nat.zero_le _, F, ⟨hI, hl⟩, by simpa using hD, fun b o _ _ _ e => e, Nat.le_refl _⟩
  rintro k s' ⟨j, m', rfl, hj, F', hst, hD', hk, ht⟩
  have hY : ∀ a ∈ [I2], a ∈ X := fun a ha => by rw [List.mem_singleton.mp ha]; exact hIX
  rcases Nat.lt_or_ge j vs.length with hlt | hge
  · refine T.item s₀ X g m' cm s' j _ _ _ (by simpa using hlt) F' hY hst fun m₁ s₁ hB F₁ hst₁ hk₁ ht₁ => ?_
    obtain ⟨v, hv, hm⟩ := hB
    have hD₁ : LL s₁.heap D (ys ++ vs.take j) := let ⟨q, e⟩ := hD'; ⟨q, hk₁ _ _ hL3 (by simpa using hDI) e⟩
    refine F₁.name hx hm ?_ hd
    refine appendI hD₁ (by rw [sizeLine_eq, List.length_append, List.length_take]; omega) fun h₅ hD₅ hs₅ => ?_
    have F₅ := F₁.keepBut [D] (by intro a ha; rw [List.mem_singleton.mp ha]; exact ⟨hDX, flds_LL hD₁⟩) (h' := h₅) (tk := s₁.toks) (fun b o hb x => hs₅.extBut b o (fun q => hb (q ▸ .head _)) x) (Nat.le_refl _)
    refine ⟨vs.length - (j + 1), by omega, j + 1, m₁, rfl, hlt, F₅, W.frame _ _ _ hst₁ fun b hb o e => hs₅.extBut b o ?_ e, ?_, fun b o b1 b2 b3 e => hs₅.extBut b o b2 (hk₁ b o b1 (by simpa using b3) (hk b o b1 b2 b3 e)), Nat.le_trans ht ht₁⟩
    · rcases List.mem_cons.mp hb with q | hb
      · rw [q]; exact Ne.symm hDI
      · rw [List.mem_singleton.mp hb]; exact hD'D
    · have e : vs.take (j + 1) = vs.take j ++ [v] := by
        rw [List.take_add_one]
        have : vs[j]? = some v := by simpa using hv
        rw [this]; rfl
      rw [e, ← List.append_assoc]
      exact hD₅
  · have hjn : j = vs.length := by omega
    subst hjn
    refine T.done s₀ X g m' cm s' _ _ _ F' hY (by simpa using hst) fun s₁ F₁ hk₁ ht₁ => ?_
    refine h m' s₁ F₁ ?_ (fun b o b1 b2 b3 e => hk₁ b o (by simpa using b3) (hk b o b1 b2 b3 e)) (Nat.le_trans ht ht₁)
    rw [List.take_length] at hD'
    exact let ⟨q, e⟩ := hD'; ⟨q, hk₁ _ _ (by simpa using hDI) e⟩

theorem IntsAre.append {vs us : List Value} {ns ms : List Int} (h : IntsAre vs ns) (k : IntsAre us ms) : IntsAre (vs ++ us) (ns ++ ms) := by
  induction h with
  | nil => exact k
  | cons n t _ ih => exact .cons n t ih
theorem LF.letGo {Y : List Addr} (F : LF s₀ (Y ++ X) g env m cm s) (hl : env.locals ∈ X) (hc : ∀ n c, env.cells.lookup n = some c → c ∈ X) : LF s₀ X g env m cm s := F.less (fun a ha => List.mem_append_right _ ha) hl hc

theorem outer_run {i0 : Expr} {scope : Scope} {pos p1 p2 q0 q1 q2 q3 : Pos} {x0 x1 : Str} {I D Dn : Addr} {us : List Value} {nums : List Nat} {R : Result → Shared → Prop} (G : Glb g) (hh : A.handled = none) (hroom : A.depth < recursionLimit) (F : LF s₀ X g env m cm s)
    (hI : s.heap.IsListIter I Dn 0) (hN : s.heap.IsList Dn us.toArray) (hU : IntsAre us (zs nums)) (hD : LL s.heap D []) (hIX : I ∈ X) (hDX : D ∈ X) (hDI : D ≠ I) (hNI : Dn ≠ I) (hND : Dn ≠ D)
    (k0 : env.kindOf x0 = some .local) (k1 : env.kindOf x1 = some .local) (kf : env.kindOf "_law_spelled" = some .globalImplicit) (kg : env.globals = mainGlobals)
    (d0 : (x0 == ("__debug__" : Str)) = false) (d1 : (x1 == ("__debug__" : Str)) = false) (hst : starEach [Expr.Name x0 q2] env = [(false, eval (.Name x0 q2) env)])
    (hz : (nums.map spelled).flatten.length ≤ 1000)
    (h : ∀ m' s' ys, LF s₀ X g env m' cm s' → LL s'.heap D ys → IntsAre ys (zs (nums.map spelled).flatten) → (∀ b o, b ≠ env.locals → b ≠ D → b ≠ I → s.heap.get? b = some o → s'.heap.get? b = some o) → s.toks ≤ s'.toks → R (.ok .next) s') :
    codeAny (model prog w) A (.compLoop (.ListComp (.Name x1 p1) [⟨.Name x0 q0, i0, [], 0⟩, ⟨.Name x1 p2, .Call (.Name "_law_spelled" q1) [.Name x0 q2] [] q3, [], 0⟩] scope pos) 0 (.ref I) (.ref D) env) R s := by
  have hL1 : I ≠ env.locals := F.notLoc (flds_iter hI)
  have hL2 : Dn ≠ env.locals := F.notLoc (flds_list hN)
  have hL3 : D ≠ env.locals := F.notLoc (flds_LL hD)
  have hul : us.length = nums.length := by have := hU.length; simpa using this
  have W := Walks.list (prog := prog) (w := w) hh I Dn hNI us.toArray
  have T := Turner.name (px := q0) W (fun i h hs a ha => by rw [List.mem_singleton.mp ha]; exact flds_iter hs.1) (by
    intro hm
    rcases List.mem_cons.mp hm with q | hm
    · exact hL1 q.symm
    · exact hL2 (List.mem_singleton.mp hm).symm) k0
  have hpre : ∀ i, ((nums.take i).map spelled).flatten.length ≤ 1000 := fun i => by
    have e : (nums.map spelled).flatten = ((nums.take i).map spelled).flatten ++ ((nums.drop i).map spelled).flatten := by
      rw [← List.flatten_append, ← List.map_append, List.take_append_drop]
    rw [e, List.length_append] at hz
    omega
  refine loop_out (fun k s' => ∃ i m' ys, k = us.length - i ∧ i ≤ us.length ∧ LF s₀ X g env m' cm s' ∧ (s'.heap.IsListIter I Dn i ∧ s'.heap.IsList Dn us.toArray) ∧ LL s'.heap D ys ∧ IntsAre ys (zs ((nums.take i).map spelled).flatten) ∧
    (∀ b o, b ≠ env.locals → b ≠ D → b ≠ I → s.heap.get? b = some o → s'.heap.get? b = some o) ∧ s.toks ≤ s'.toks) (fun _ => rfl) ?_ us.length ⟨0, m, [], rfl, Nat.zero_le _, F, ⟨hI, hN⟩, hD, .nil, fun b o _ _ _ e => e, Nat.le_refl _⟩
  rintro k s' ⟨i, m', ys, rfl, hi, F', hst', hD', hys, hk, ht⟩
  have hY : ∀ a ∈ [I], a ∈ X := fun a ha => by rw [List.mem_singleton.mp ha]; exact hIX
  rcases Nat.lt_or_ge i us.length with hlt | hge
  · refine T.item s₀ X g m' cm s' i _ _ _ (by simpa using hlt) F' hY hst' fun m₁ s₁ hB F₁ hst₁ hk₁ ht₁ => ?_
    obtain ⟨v, hv, hm⟩ := hB
    obtain ⟨N', t, hN', rfl⟩ := ints_at hU (by simpa using hv)
    have hiN : i < nums.length := by omega
    have hNe : N' = ((nums[i] : Nat) : Int) := by
      have : (zs nums)[i]? = some ((nums[i] : Nat) : Int) := by unfold zs; rw [List.getElem?_map, List.getElem?_eq_getElem hiN]; rfl
      rw [this] at hN'; cases hN'; rfl
    subst hNe
    have hsplit : ((nums.take (i + 1)).map spelled).flatten = ((nums.take i).map spelled).flatten ++ spelled nums[i] := by
      rw [List.take_succ_eq_append_getElem hiN, List.map_append, List.flatten_append]
      simp
    have hpi := hpre (i + 1)
    rw [hsplit, List.length_append] at hpi
    have hysl : ys.length = ((nums.take i).map spelled).flatten.length := hys.length.trans (List.length_map _)
    have G₁ := G.up F₁.sub
    have hD₁ : LL s₁.heap D ys := let ⟨q, e⟩ := hD'; ⟨q, hk₁ _ _ hL3 (by simpa using hDI) e⟩
    refine call1F (name := "_law_spelled") (k := 16) (c := 103) (G₁.nameU (fun mg n => n.spell) ⟨rfl, rfl⟩ (hk := F₁.fn) (hx := kf) (hg := kg)) (F₁.name k0 hm ⟨G₁.fSpell, call_spelled G₁ hroom (by omega) fun D' vs s₂ k₂ hD2 hD2n hM => ?_⟩ d0) hst
    have F₂ := F₁.kp k₂
    refine wpAny_pyIter_list hD2.is ?_
    generalize hI2e : s₂.heap.objs.size = I2
    have hI2n : s₂.heap.get? I2 = none := by rw [← hI2e]; exact Heap.get?_none_of_le (Nat.le_refl _)
    have K₃ : Kp s₂ { s₂ with heap := s₂.heap.push { cls := .type "list_iterator", data := .fields #[.ref D', .int 0 0] } } := Kp.heap (s := s₂) (fun b o e => Heap.get?_push_of_some _ e) (Nat.le_refl _)
    have hI2 : (s₂.heap.push { cls := .type "list_iterator", data := .fields #[.ref D', .int 0 0] }).IsListIter I2 D' 0 := ⟨_, by rw [← hI2e]; exact Heap.get?_push_size _ rfl, rfl, rfl⟩
    generalize hs3 : ({ s₂ with heap := s₂.heap.push { cls := .type "list_iterator", data := .fields #[.ref D', .int 0 0] } } : Shared) = s₃ at K₃ ⊢
    have hI2' : s₃.heap.IsListIter I2 D' 0 := by rw [← hs3]; exact hI2
    clear hs3 hI2
    have hgI2 : g.get? I2 = none := by
      cases e : g.get? I2 with
      | none => rfl
      | some o => rw [F₂.sub _ _ e] at hI2n; cases hI2n
    have F₃ := (F₂.more hgI2).kp K₃
    have hvl : vs.length = (spelled nums[i]).length := by have := hM.1.length; simpa using this
    have nI2 : ∀ {b : Addr} {o : Obj}, s₂.heap.get? b = some o → b ≠ I2 := fun e => ne_some hI2n e
    have hD₂ := hD₁.up k₂.sub
    have run : codeAny (model prog w) A (.compLoop (.ListComp (.Name x1 p1) [⟨.Name x0 q0, i0, [], 0⟩, ⟨.Name x1 p2, .Call (.Name "_law_spelled" q1) [.Name x0 q2] [] q3, [], 0⟩] scope pos) 1 (.ref I2) (.ref D) env) (fun r s₅ => match r with
        | .ok _ => ∃ m, m < us.length - i ∧ ∃ i_1 m'_1 ys_1, m = us.length - i_1 ∧ i_1 ≤ us.length ∧ LF s₀ X g env m'_1 cm s₅ ∧ (s₅.heap.IsListIter I Dn i_1 ∧ s₅.heap.IsList Dn us.toArray) ∧ LL s₅.heap D ys_1 ∧ IntsAre ys_1 (zs ((nums.take i_1).map spelled).flatten) ∧
            (∀ b o, b ≠ env.locals → b ≠ D → b ≠ I → s.heap.get? b = some o → s₅.heap.get? b = some o) ∧ s.toks ≤ s₅.toks
        | .error e => cameBackBy (model prog w) A env (notedBy (model prog w) A env fun e s' => R (.error e) s') e s₅) s₃ := by
      refine inner_run hh F₃ hI2' (hD2.is.at fun o e => K₃.sub _ _ e) (hD₂.up K₃.sub) (.head _) (.tail _ hDX) ?_ ?_ ?_ k1 (by omega) d1 fun m₄ s₄ F₄ hD₄ hk₄ ht₄ => ?_
      · obtain ⟨q, e⟩ := hD₂; exact nI2 e
      · obtain ⟨q, e⟩ := hD2; exact nI2 e
      · obtain ⟨q, e⟩ := hD₁; exact (ne_some hD2n e).symm
      refine ⟨us.length - (i + 1), by omega, i + 1, m₄, ys ++ vs, rfl, hlt, LF.letGo (Y := [I2]) F₄ F.loc F.cin, W.frame _ _ _ hst₁ fun b hb o e => ?_, hD₄, ?_, fun b o b1 b2 b3 e => ?_, Nat.le_trans ht (Nat.le_trans ht₁ (Nat.le_trans k₂.tok (Nat.le_trans K₃.tok ht₄)))⟩
      · have e2 := k₂.sub _ _ e
        refine hk₄ b o ?_ ?_ (nI2 e2) (K₃.sub _ _ e2)
        · rcases List.mem_cons.mp hb with q | hb
          · rw [q]; exact hL1
          · rw [List.mem_singleton.mp hb]; exact hL2
        · rcases List.mem_cons.mp hb with q | hb
          · rw [q]; exact Ne.symm hDI
          · rw [List.mem_singleton.mp hb]; exact hND
      · rw [hsplit]
        unfold zs
        rw [List.map_append]
        exact hys.append hM.1
      · have e1 := hk₁ b o b1 (by simpa using b3) (hk b o b1 b2 b3 e)
        have e2 := k₂.sub _ _ e1
        exact hk₄ b o b1 b2 (nI2 e2) (K₃.sub _ _ e2)
    exact compStart1 run (wpAny_pyIter_listiter hI2' run)
  · have hin : i = us.length := by omega
    subst hin
    refine T.done s₀ X g m' cm s' _ _ _ F' hY (by simpa using hst') fun s₁ F₁ hk₁ ht₁ => ?_
    rw [List.take_of_length_le (by omega)] at hys
    exact h m' s₁ ys F₁ (let ⟨q, e⟩ := hD'; ⟨q, hk₁ _ _ (by simpa using hDI) e⟩) hys (fun b o b1 b2 b3 e => hk₁ b o (by simpa using b3) (hk b o b1 b2 b3 e)) (Nat.le_trans ht ht₁)

theorem l17_8 {Dc Dn : Addr} {vs us : List Value} {C nums : List Nat} {Q : Flow → Shared → Prop} (G : Glb g) (hh : A.handled = none) (hroom : A.depth < recursionLimit) (hun : A.units + 64 < cLine) (F : LF s₀ (LX L c1 c2) g (lenv L c1 c2) m cm s)
    (hc : cm "codes" = some (.ref Dc)) (hD : LL g Dc vs) (hI : IntsAre vs (zs C)) (hn : m "numbers" = some (.ref Dn)) (hN : g.IsList Dn us.toArray) (hU : IntsAre us (zs nums)) (hw : C = (nums.map spelled).flatten) (hz : C.length ≤ 1000)
    (h : ∀ s', LF s₀ (LX L c1 c2) g (lenv L c1 c2) m cm s' → s.toks ≤ s'.toks → Q .next s') :
    wpAny (model prog w) A (exec (st 17 8) (lenv L c1 c2)) Q E s := by
  have hNs : s.heap.IsList Dn us.toArray := hN.at fun o e => F.sub _ _ e
  have hDnlt : Dn < s.heap.objs.size := by obtain ⟨o, e, _⟩ := hNs; exact Heap.lt_size e
  refine wpAny_If (wpAny_isTrue_Compare1 ?_)
  rw [eval_ListComp]
  refine wpAny_comprehension_free (use := none) (cl := []) rfl (fun _ => rfl) rfl rfl (by decide +kernel) (F.name rfl hn (wpAny_pyIter_list hNs ?_))
  generalize hI0 : s.heap.objs.size = I
  have K₂ : Kp s { s with heap := s.heap.push { cls := .type "list_iterator", data := .fields #[.ref Dn, .int 0 0] } } := Kp.heap (s := s) (fun b o e => Heap.get?_push_of_some _ e) (Nat.le_refl _)
  have hIit : (s.heap.push { cls := .type "list_iterator", data := .fields #[.ref Dn, .int 0 0] }).IsListIter I Dn 0 := ⟨_, by rw [← hI0]; exact Heap.get?_push_size _ rfl, rfl, rfl⟩
  have hIs : s.heap.get? I = none := by rw [← hI0]; exact Heap.get?_none_of_le (Nat.le_refl _)
  have hDnI : Dn ≠ I := by rw [← hI0]; exact Nat.ne_of_lt hDnlt
  generalize hs2 : ({ s with heap := s.heap.push { cls := .type "list_iterator", data := .fields #[.ref Dn, .int 0 0] } } : Shared) = s₂ at K₂ ⊢
  have hIit₂ : s₂.heap.IsListIter I Dn 0 := by rw [← hs2]; exact hIit
  clear hs2 hIit
  have hN₂ : s₂.heap.IsList Dn us.toArray := hNs.at fun o e => K₂.sub _ _ e
  refine comp_shell (RR := fun acc C' => compPost (model prog w) A E none _ acc C') (by decide +kernel) rfl (fun s' Q E hs hq => wpAny_pyIter_listiter (hIit₂.at fun o e => hs _ _ e) hq) fun C' D h₁ m₀ hDC hCn hDn _ _ old hDl hns => ?_
  have hidn : ∀ a, s₂.heap.get? a = none → (hideAll s₂.heap [I]).get? a = none := fun a ha => by
    cases e : (hideAll s₂.heap [I]).get? a with
    | none => rfl
    | some o => rw [of_hideAll _ e] at ha; cases ha
  have gsub : Sub g (hideAll s₂.heap [I]) := fun b o e => hideAll_get _ (K₂.sub _ _ (F.sub _ _ e)) (by simpa using ne_some hIs (F.sub _ _ e))
  have hDI : D ≠ I := by obtain ⟨o, e, _⟩ := hIit₂; exact (ne_some hDn e).symm
  have hDnD : Dn ≠ D := by obtain ⟨o, e, _⟩ := hN₂; exact ne_some hDn e
  have base : LF s₂ [C', D, I] (hideAll s₂.heap [I]) (compEnvC { kind := .function, names := [(Str.ofString ".0", .local), (Str.ofString "number", .local), (Str.ofString "octet", .local), (Str.ofString "_law_spelled", .globalImplicit)], isGenerator := false, isCoroutine := false } [] C' (lenv L c1 c2)) m₀ (fun _ => none) { s₂ with heap := h₁ } := by
    refine ⟨⟨_, _, rfl⟩, Nat.le_refl _, fun b o e => old b o (of_hideAll _ e), fun a ha => ?_, hns, .head _, fun x c e => (by cases e), fun x c e => (by cases e), fun x c y e => (by cases e), rfl⟩
    rcases List.mem_cons.mp ha with q | ha
    · rw [q]; exact hidn _ hCn
    rcases List.mem_cons.mp ha with q | ha
    · rw [q]; exact hidn _ hDn
    · exact hideAll_none _ ha
  refine outer_run (G.up gsub) hh hroom base (hIit₂.at fun o e => old _ _ e) (hN₂.at fun o e => old _ _ e) hU hDl (.tail _ (.tail _ (.head _))) (.tail _ (.head _)) hDI hDnI hDnD rfl rfl rfl rfl rfl rfl rfl (by rw [← hw]; exact hz) fun m' s' ys F' hD' hys hk ht => ?_
  have hCs : s.heap.get? C' = none := by
    cases e : s.heap.get? C' with
    | none => rfl
    | some o => rw [K₂.sub _ _ e] at hCn; cases hCn
  have hDs : s.heap.get? D = none := by
    cases e : s.heap.get? D with
    | none => rfl
    | some o => rw [K₂.sub _ _ e] at hDn; cases hDn
  refine ⟨m', F'.ns, fun h' hs' => ?_⟩
  have K' : Kp s { s' with heap := h' } := by
    obtain ⟨⟨hh', tk', e2⟩, ht2, hsub2⟩ := K₂
    obtain ⟨hh'', tk'', rfl⟩ := F'.same
    exact ⟨⟨h', tk'', by rw [e2]⟩, Nat.le_trans ht2 ht, fun b o e => hs'.extBut b o (ne_some hCs e) (hk b o (ne_some hCs e) (ne_some hDs e) (ne_some hIs e) (old _ _ (hsub2 b o e)))⟩
  have F₅ := F.kp K'
  have hDl' : LL h' D ys := let ⟨q, e⟩ := hD'; ⟨q, hs'.extBut _ _ hDC e⟩
  refine F₅.nameC rfl rfl hc (ne_intsK (LL.is hDl') hys ((hD.up F₅.sub).is) hI hun (wpAny_truthy_bool ?_))
  rw [← hw, decide_eq_true rfl]
  simp only [Bool.not_true, Bool.false_eq_true, if_false]
  exact wpAny_execs_nil (h _ F₅ K'.tok)
end
end Mine
namespace Mine
open PySem PySem.W PyProof.Rows

section
variable {prog : Program} {w : World} {A : Around} {E : Value → Shared → Prop} {s s₀ : Shared} {X : List Addr} {g : Heap} {m cm : Str → Option Value} {L c1 c2 : Addr} {env : Env}

theorem IntsAre.drop {vs : List Value} {ns : List Int} (h : IntsAre vs ns) : ∀ k, IntsAre (vs.drop k) (ns.drop k) := by
  induction h with
  | nil => intro k; simp; exact .nil
  | cons n t h' ih =>
    intro k
    cases k with
    | zero => exact .cons n t h'
    | succ k => exact ih k

theorem call_len_I {l : Addr} {vs : List Value} {Q : Value → Shared → Prop} (hl : s.heap.IsList l vs.toArray) (hz : vs.length ≤ 1000) (h : ∀ s' (t : Nat), Kp s s' → s.toks ≤ t → t < s'.toks → Q (.int vs.length t) s') : wpAny (model prog w) A (call (.builtin "len") [.ref l]) Q E s := by
  refine Calls.call_len_list hl (by rw [List.size_toArray]; omega) ?_
  rw [List.size_toArray]
  exact h _ _ (Kp.toks (s := s) (Nat.le_succ_of_le (Nat.le_succ _))) (Nat.le_succ _) (Nat.lt_succ_self _)

theorem l17_9 {Dc : Addr} {vs : List Value} {C : List Nat} {Q : Flow → Shared → Prop} (G : Glb g) (hh : A.handled = none) (hun : A.units + 64 < cLine) (F : LF s₀ (LX L c1 c2) g (lenv L c1 c2) m cm s)
    (hc : cm "codes" = some (.ref Dc)) (hD : LL g Dc vs) (hI : IntsAre vs (zs C)) (h2 : 2 ≤ C.length) (h64 : C.length < 64)
    (h : ∀ s' D (rs : List Addr) (rows : List (List Int)) g', LF s₀ (LX L c1 c2) g' (lenv L c1 c2) (upd m "turned" (.ref D)) cm s' → Sub g g' → LL g' D (rs.map Value.ref) → rs.length = rows.length →
      (∀ k a, rs[k]? = some a → ∃ us, LL g' a us ∧ IntsAre us (rows.getD k []) ∧ ∀ v ∈ us, v ∈ vs) → Turned (zs C) rows → s.toks ≤ s'.toks → Q .next s') :
    wpAny (model prog w) A (exec (st 17 9) (lenv L c1 c2)) Q E s := by
  have G₁ := G.up F.sub
  have hDs := hD.up F.sub
  have hvl : vs.length = C.length := hI.length.trans (List.length_map _)
  have hDX : Dc ∉ LX L c1 c2 := LX.flds F (flds_LL hDs)
  refine wpAny_Assign_Name (call1B (G₁.nameB (by boot_by_name) ⟨rfl, rfl⟩) (comp_val (cl := [(Str.ofString "codes", c1)]) rfl (by decide +kernel) rfl (by decide +kernel) (call1T (G₁.nameB (by boot_by_name) ⟨rfl, rfl⟩) (call1B (G₁.nameB (by boot_by_name) ⟨rfl, rfl⟩) (F.nameC rfl rfl hc (call_len_I hDs.is (by omega) fun s₁ t₁ k₁ _ _ => ?_))))))
  rw [hvl]
  refine call_range_1 (wpAny_pyIter_range (IsRange.new ..) (small_one (by decide) (by decide) (by omega) (by omega)) ?_)
  have hsz : Builtin.Range.rangeSize 0 (C.length : Int) 1 = (C.length : Int) := by rw [rangeSize_one]; split <;> omega
  generalize hIe : (s₁.heap.push { cls := .type "range", data := .fields #[.int 0 s₁.toks, .int (C.length : Int) t₁, .int 1 (s₁.toks + 1)] }) = h₁
  have hsub1 : Sub s₁.heap h₁ := fun b o e => by rw [← hIe]; exact Heap.get?_push_of_some _ e
  have K2 : Kp s₁ { s₁ with heap := h₁.push { cls := .type "range_iterator", data := .fields #[rawInt 0, rawInt (Builtin.Range.rangeSize 0 (C.length : Int) 1), rawInt 1] }, toks := s₁.toks + 1 + 1 } :=
    Kp.heap (s := s₁) (fun b o e => Heap.get?_push_of_some _ (hsub1 b o e)) (by omega)
  have K3 := k₁.trans K2
  have hIn : s.heap.get? h₁.objs.size = none := by
    cases e : s.heap.get? h₁.objs.size with
    | none => rfl
    | some o => exact absurd (Heap.lt_size (hsub1 _ _ (k₁.sub _ _ e))) (Nat.lt_irrefl _)
  have hIi : IsRangeIter (h₁.push { cls := .type "range_iterator", data := .fields #[rawInt 0, rawInt (Builtin.Range.rangeSize 0 (C.length : Int) 1), rawInt 1] }) h₁.objs.size (0 + ((0 : Nat) : Int) * 1) ((C.length : Int) - ((0 : Nat) : Int)) 1 := by
    have e1 : (0 + ((0 : Nat) : Int) * 1) = 0 := by simp
    have e2 : ((C.length : Int) - ((0 : Nat) : Int)) = Builtin.Range.rangeSize 0 (C.length : Int) 1 := by rw [hsz]; simp
    rw [e1, e2]
    exact Heap.get?_push_size _ rfl
  refine compAt_walk (cmc := cm) (fun i g _ ys => ∃ rs : List Addr, ys = rs.map Value.ref ∧ rs.length = i ∧ ∀ k a, rs[k]? = some a → LL g a (vs.drop k ++ vs.take k)) (Walks.range hh _ 0 1 C.length) (fun i h hs => ⟨_, hs, .inl ⟨_, rfl⟩⟩) K3 hIn hIi ?_ (by rw [sizeLine_eq]; omega)
    (fun x c e => ?_) (fun x c y e e' => ?_) (fun c hc' => ?_) (fun C' => rfl) (fun _ _ => ⟨[], rfl, rfl, fun k a e => by simp at e⟩) (fun i h h' _ _ ys hj hs _ => ?_) ?_ ?_
  · intro b hb
    show b < (h₁.push _).objs.size
    rw [Heap.size_push, List.mem_singleton.mp hb]
    exact Nat.lt_succ_self _
  · have hx : x = Str.ofString "codes" ∧ c = c1 := by
      simp only [List.lookup_cons, List.lookup_nil] at e
      split at e
      · rename_i q; cases e; exact ⟨by simpa using q, rfl⟩
      · cases e
    obtain ⟨rfl, rfl⟩ := hx
    exact (F.cell "codes" c rfl).keeps K3.sub
  · have hx : ∀ z, [(Str.ofString "codes", c1)].lookup z = some c → z = Str.ofString "codes" := fun z e => by
      simp only [List.lookup_cons, List.lookup_nil] at e
      split at e
      · rename_i q; simpa using q
      · cases e
    rw [hx x e, hx y e']
  · rw [List.mem_singleton.mp (by simpa using hc' : c ∈ [c1])]
    exact ⟨Str.ofString "codes", rfl⟩
  · obtain ⟨rs, e1, e2, e3⟩ := hj
    exact ⟨rs, e1, e2, fun k a e => (e3 k a e).up hs⟩
  · rintro E' C' X' g' i v ys m' s₃ hi ⟨t, rfl⟩ hm ⟨rs, rfl, hrl, hrs⟩ hg' F₃ hyl
    have hDs2 := hDs.up K3.sub
    have hDg : LL g' Dc vs := by
      obtain ⟨n, e⟩ := hDs2
      refine ⟨n, hg' _ _ (fun q => ?_) (fun q => ?_) e⟩
      · obtain ⟨n', e'⟩ := hDs
        rw [q, hIn] at e'; cases e'
      · exact hDX (by rw [List.mem_singleton.mp (by simpa using q : Dc ∈ [c1])]; simp)
    have hD3 := hDg.up F₃.sub
    have e0 : (0 + (i : Int) * 1) = (i : Int) := by omega
    rw [e0] at hm
    refine wpAny_BinOp (sliceK (F₃.nameC rfl rfl hc (part_some (F₃.name rfl hm (part_none (part_none ⟨Dc, vs, some i, none, none, rfl, hD3.is, by omega, .int _ _, .none, .none, by decide, fun D₁ s₄ k₄ hL₁ hn₁ => ?_⟩))))))
    refine sliceK ((F₃.kp k₄).nameC rfl rfl hc (part_none (part_some ((F₃.kp k₄).name rfl hm (part_none ⟨Dc, vs, none, some i, none, rfl, (hD3.up k₄.sub).is, by omega, .none, .int _ _, .none, by decide, fun D₂ s₅ k₅ hL₂ hn₂ => ?_⟩)))))
    rw [slicePick_from'] at hL₁
    rw [slicePick_upto _ _ (by rw [List.size_toArray]; omega)] at hL₂
    simp only [List.toList_toArray] at hL₁ hL₂
    refine catI (hL₁.up k₅.sub) hL₂ (by rw [sizeLine_eq, List.length_drop, List.length_take]; omega) fun s₆ D₃ k₆ hL₃ hn₃ => ⟨(k₄.trans k₅).trans k₆, fun g'' hgg hnew => ⟨rs ++ [D₃], by simp, by simp [hrl], fun k a e => ?_⟩⟩
    rcases Nat.lt_or_ge k rs.length with hk | hk
    · rw [List.getElem?_append_left hk] at e
      exact (hrs k a e).up hgg
    · rw [List.getElem?_append_right hk] at e
      have hk0 : k - rs.length = 0 := by
        rcases Nat.eq_zero_or_pos (k - rs.length) with q | q
        · exact q
        · rw [List.getElem?_eq_none (by rw [List.length_singleton]; exact q)] at e; cases e
      rw [hk0] at e
      have ha : D₃ = a := by simpa using e
      subst ha
      have hki : k = i := by omega
      rw [hki]
      obtain ⟨q, e'⟩ := hL₃
      refine ⟨q, hnew _ _ e' ?_⟩
      cases e2 : s₃.heap.get? D₃ with
      | none => rfl
      | some o => rw [k₅.sub _ _ (k₄.sub _ _ e2)] at hn₃; cases hn₃
  · rintro D g' ys s₂ K₂ hDn hDl hyl hsub _ ⟨rs, rfl, hrl, hrs⟩
    have hrots : ∀ i, i < C.length → (rots (zs C)).getD i [] = rot (zs C) i := fun i hi => by
      unfold rots
      rw [List.getD_eq_getElem?_getD, List.getElem?_map, List.getElem?_range (by rw [List.length_map]; exact hi)]
      rfl
    have hrl2 : (rots (zs C)).length = C.length := by unfold rots; rw [List.length_map, List.length_range, List.length_map]
    have hget : ∀ i, i < C.length → rs[i]? = some (rs.getD i 0) := fun i hi => by
      rw [List.getD_eq_getElem?_getD, List.getElem?_eq_getElem (by omega)]; rfl
    have hrow : ∀ i, i < C.length → LL s₂.heap (rs.getD i 0) (vs.drop i ++ vs.take i) ∧ IntsAre (vs.drop i ++ vs.take i) ((rots (zs C)).getD i []) := fun i hi =>
      ⟨(hrs i _ (hget i hi)).up hsub, by rw [hrots i hi]; exact IntsAre.append (IntsAre.drop hI i) (ints_take hI i)⟩
    refine sorted_listsV (rows := rots (zs C)) hDl.is (fun i hi => ⟨_, hrow i (by omega)⟩) (by omega) (by omega) (by show A.units + 1 + 1 < cLine; omega) fun D' s₃ p K₃ hD'n hD'l hp hs => ?_
    have F₃ := F.kp (K₂.trans K₃)
    obtain ⟨g₂, F₄, hgg, hg₂⟩ := F₃.ground
    have shown : ∀ a us, LL s₃.heap a us → LL g₂ a us := fun a us hl => by
      have hX : a ∉ LX L c1 c2 := LX.flds F₃ (flds_LL hl)
      exact let ⟨n, e⟩ := hl; ⟨n, hg₂ _ _ hX e⟩
    rw [hrl] at hp
    refine F₄.store rfl fun s₄ F₅ kb ht => h s₄ D' _ (p.map fun i => (rots (zs C)).getD i []) g₂ F₅ hgg (shown _ _ hD'l) (by simp) ?_ ⟨?_, ?_, hs⟩ (Nat.le_trans (K₂.trans K₃).tok ht)
    · intro k a e
      rw [List.getElem?_map] at e
      cases ek : p[k]? with
      | none => rw [ek] at e; cases e
      | some i =>
        rw [ek] at e
        have ha : rs.getD i 0 = a := by simpa using e
        have hi : i < C.length := by simpa using hp.mem_iff.mp (List.mem_of_getElem? ek)
        obtain ⟨r1, r2⟩ := hrow i hi
        refine ⟨_, shown _ _ (ha ▸ r1.up K₃.sub), ?_, fun v hv => ?_⟩
        · rw [List.getD_eq_getElem?_getD, List.getElem?_map, ek]
          exact r2
        · rcases List.mem_append.mp hv with hv | hv
          · exact List.mem_of_mem_drop hv
          · exact List.mem_of_mem_take hv
    · intro q
      have : C.length = 0 := by have := congrArg List.length q; rwa [List.length_map] at this
      omega
    · exact perm_getD (rots (zs C)) [] (by rw [hrl2]; exact hp)
end
end Mine
namespace Mine
open PySem PySem.W PyProof.Rows

section
variable {prog : Program} {w : World} {A : Around} {E : Value → Shared → Prop} {s s₀ : Shared} {X : List Addr} {g : Heap} {m cm : Str → Option Value} {L c1 c2 : Addr} {env : Env}

/-- the rows' lists stand in a heap -/
def RowsAt (h : Heap) (vs : List Value) (rs : List Addr) (rows : List (List Int)) : Prop :=
  rs.length = rows.length ∧ ∀ (k : Nat) (a : Addr), rs[k]? = some a → ∃ us, LL h a us ∧ IntsAre us (rows.getD k []) ∧ ∀ v ∈ us, v ∈ vs
theorem RowsAt.up {h h' : Heap} {vs : List Value} {rs : List Addr} {rows : List (List Int)} (x : RowsAt h vs rs rows) (k : Sub h h') : RowsAt h' vs rs rows :=
  ⟨x.1, fun i a e => let ⟨us, h1, h2⟩ := x.2 i a e; ⟨us, h1.up k, h2⟩⟩

theorem lst_get {r : List Int} {n : Nat} (h : r.length = n + 1) : r[n]? = some (lst r) := by
  have hne : r ≠ [] := by intro q; rw [q] at h; cases h
  have e := split_last hne
  have hl : r.dropLast.length = n := by rw [List.length_dropLast]; omega
  rw [e, lst_append, List.getElem?_append_right (by omega), hl]
  simp

theorem l17_10 {Dt : Addr} {vs : List Value} {C : List Nat} {rs : List Addr} {rows : List (List Int)} {Q : Flow → Shared → Prop} (hh : A.handled = none) (F : LF s₀ (LX L c1 c2) g (lenv L c1 c2) m cm s)
    (ht : m "turned" = some (.ref Dt)) (hT : LL g Dt (rs.map Value.ref)) (hR : RowsAt g vs rs rows) (T : Turned (zs C) rows) (hz : C.length ≤ 1000)
    (h : ∀ s' D cvs g', LF s₀ (LX L c1 c2) g' (lenv L c1 c2) (upd m "column" (.ref D)) cm s' → Sub g g' → LL g' D cvs → IntsAre cvs (rows.map lst) → (∀ v ∈ cvs, v ∈ vs) → s.toks ≤ s'.toks → Q .next s') :
    wpAny (model prog w) A (exec (st 17 10) (lenv L c1 c2)) Q E s := by
  have hrl : rows.length = C.length := T.size.trans (List.length_map _)
  refine comp_set (cl := []) F rfl rfl rfl (by decide +kernel) rfl (by decide +kernel) (F.name rfl ht ?_)
  refine iter_comp_list (cmc := fun _ => none) (fun i _ _ ys => IntsAre ys ((rows.take i).map lst) ∧ ∀ v ∈ ys, v ∈ vs) hh Kp.refl ((hT.up F.sub).is) (by rw [List.length_map, hR.1, hrl, sizeLine_eq]; omega)
    (fun x c e => by cases e) (fun x c y e => by cases e) (fun c hc => by cases hc) (fun C => rfl) (fun _ _ => ⟨.nil, fun v hv => by cases hv⟩) (fun _ _ _ _ _ _ hj _ _ => hj) ?_ ?_
  · rintro E' C' X' g' i v ys m' s₂ s₃ hv hm ⟨hj1, hj2⟩ hg' F₃ _ hyl
    rw [List.getElem?_map] at hv
    cases er : rs[i]? with
    | none => rw [er] at hv; cases hv
    | some a =>
      rw [er] at hv
      have hva : v = .ref a := by simpa using hv.symm
      subst hva
      obtain ⟨us, hus, hui, huv⟩ := hR.2 i a er
      have hi : i < rows.length := by rw [← hR.1]; exact (List.getElem?_eq_some_iff.mp er).1
      have erow : rows.getD i [] = rows[i] := by rw [List.getD_eq_getElem?_getD, List.getElem?_eq_getElem hi]; rfl
      rw [erow] at hui
      have hrlen : rows[i].length = C.length := (T.len (List.getElem_mem hi)).trans (List.length_map _)
      have hul : us.length = C.length := hui.length.trans hrlen
      obtain ⟨n, hn⟩ : ∃ n, C.length = n + 1 := ⟨C.length - 1, by omega⟩
      have hln : n < us.length := by omega
      obtain ⟨x, t, hx, hxe⟩ := ints_at hui (List.getElem?_eq_getElem hln)
      rw [lst_get (by omega)] at hx
      cases hx
      have hus3 : LL s₃.heap a us := (hus.up F.sub).up (fun b o e => F₃.sub _ _ (hg' b o (by simp) e))
      refine Subscript_ (F₃.name rfl hm (wpAny_UnaryOp (constI fun s₄ t₄ k₄ _ _ => PySem.P.neg_int ?_)))
      have k5 : Kp s₄ { s₄ with toks := s₄.toks + 1 } := Kp.one
      have hl5 : Heap.IsList s₄.heap a us.toArray := (hus3.up k₄.sub).is
      refine tail_any (s := { s₄ with toks := s₄.toks + 1 }) (T := "list") (ops := [.ref a, .int (-1) s₄.toks]) (LL.is (hus3.up (k₄.trans k5).sub)).typeIs slot_list_getitem.lookup (wpAny_getItem_list_neg (LL.is (hus3.up (k₄.trans k5).sub)) (by decide) (by rw [List.size_toArray]; omega) (by decide) (x := us[n]) (by
        have e1 : ((-1 : Int) + (us.toArray.size : Int)).toNat = n := by rw [List.size_toArray]; omega
        rw [e1]; simp [hln]) ?_) (by with_unfolding_all rfl)
      refine ⟨k₄.trans k5, fun g'' _ _ => ⟨?_, ?_⟩⟩
      · rw [List.take_succ_eq_append_getElem hi, List.map_append, hxe]
        exact IntsAre.snoc hj1 _ _
      · intro v hv
        rcases List.mem_append.mp hv with hv | hv
        · exact hj2 v hv
        · rw [List.mem_singleton.mp hv]; exact huv _ (List.getElem_mem hln)
  · rintro D g' ys s₂ K₂ hDn hD hyl hsub _ ⟨hj1, hj2⟩ s₃ F₃ hD₃ ht₃ kb
    rw [List.length_map, hR.1, List.take_length] at hj1
    obtain ⟨g₂, F₄, hgg, hg₂⟩ := F₃.ground
    have hDX : D ∉ LX L c1 c2 := LX.flds F₃ (flds_LL hD₃)
    exact h s₃ D ys g₂ F₄ hgg (let ⟨n, e⟩ := hD₃; ⟨n, hg₂ _ _ hDX e⟩) hj1 hj2 (Nat.le_trans K₂.tok ht₃)

theorem l17_11 {Dc : Addr} {vs : List Value} {C : List Nat} {Q : Flow → Shared → Prop} (G : Glb g) (F : LF s₀ (LX L c1 c2) g (lenv L c1 c2) m cm s) (hc : cm "codes" = some (.ref Dc)) (hD : LL g Dc vs) (hI : IntsAre vs (zs C)) (h2 : 2 ≤ C.length) (h64 : C.length < 64)
    (h : ∀ s' D us ms g', LF s₀ (LX L c1 c2) g' (lenv L c1 c2) m (upd cm "ordered" (.ref D)) s' → Sub g g' → LL g' D us → IntsAre us ms → ms.Perm (zs C) → ms.Pairwise (· ≤ ·) → (∀ v ∈ us, v ∈ vs) → s.toks ≤ s'.toks → Q .next s') :
    wpAny (model prog w) A (exec (st 17 11) (lenv L c1 c2)) Q E s := by
  have G₁ := G.up F.sub
  have hvl : vs.length = C.length := hI.length.trans (List.length_map _)
  refine wpAny_Assign_Name (call1B (G₁.nameB (by boot_by_name) ⟨rfl, rfl⟩) (F.nameC rfl rfl hc (sorted_intsV (hD.up F.sub).is hI (by omega) (by omega) fun D s₁ us ms k₁ hDn hDl hus hp hs hv => ?_)))
  obtain ⟨g₂, F₂, hgg, hg₂⟩ := F.grow (LX.live F) k₁
  exact F₂.storeC rfl rfl fun s₃ F₃ ht => h s₃ D us ms g₂ F₃ hgg (let ⟨n, e⟩ := hDl; ⟨n, hg₂ _ _ hDn e⟩) hus hp hs hv (Nat.le_trans k₁.tok ht)

theorem l17_13 {Dc Dt : Addr} {vs : List Value} {C : List Nat} {rs : List Addr} {rows : List (List Int)} {Q : Flow → Shared → Prop} (G : Glb g) (hh : A.handled = none) (hroom : A.depth < recursionLimit) (hun : A.units + 100 < cLine) (F : LF s₀ (LX L c1 c2) g (lenv L c1 c2) m cm s)
    (hc : cm "codes" = some (.ref Dc)) (hD : LL g Dc vs) (hI : IntsAre vs (zs C)) (ht : m "turned" = some (.ref Dt)) (hT : LL g Dt (rs.map Value.ref)) (hR : RowsAt g vs rs rows) (T : Turned (zs C) rows)
    (h : ∀ s' t, LF s₀ (LX L c1 c2) g (lenv L c1 c2) (upd m "place" (.int (rows.idxOf (zs C) : Nat) t)) cm s' → s.toks ≤ s'.toks → Q .next s') :
    wpAny (model prog w) A (exec (st 17 13) (lenv L c1 c2)) Q E s := by
  have G₁ := G.up F.sub
  have hmem : zs C ∈ rows := by
    refine T.perm.mem_iff.mpr (List.mem_map.mpr ⟨0, ?_, rot_zero _⟩)
    have := List.length_pos_iff.mpr T.ne
    exact List.mem_range.mpr this
  refine wpAny_Assign_Name (call2F (name := "indexOf") (k := 6) (c := 65) (G₁.nameU (fun mg n => n.indexOf) ⟨rfl, rfl⟩) (F.name rfl ht (F.nameC rfl rfl hc ⟨G₁.fIndex, call_indexOf_lists (rs := rs) (rows := rows) G₁ hh hroom hun (hT.up F.sub).is (fun k a e => ?_) hR.1 (hD.up F.sub).is hI hmem fun t s₁ k₁ => ?_⟩)))
  · obtain ⟨us, h1, h2, _⟩ := hR.2 k a e
    have hk : k < rows.length := by rw [← hR.1]; exact (List.getElem?_eq_some_iff.mp e).1
    refine ⟨us, rows[k], List.getElem?_eq_getElem hk, (h1.up F.sub).is, ?_⟩
    have : rows.getD k [] = rows[k] := by rw [List.getD_eq_getElem?_getD, List.getElem?_eq_getElem hk]; rfl
    rwa [this] at h2
  · exact (F.kp k₁).store rfl fun s₂ F₂ kb ht₂ => h s₂ t F₂ (Nat.le_trans k₁.tok ht₂)

theorem l17_14 {Q : Flow → Shared → Prop} (F : LF s₀ (LX L c1 c2) g (lenv L c1 c2) m cm s)
    (h : ∀ s' D g', LF s₀ (LX L c1 c2) g' (lenv L c1 c2) (upd m "back" (.ref D)) cm s' → Sub g g' → LL g' D [] → s.toks ≤ s'.toks → Q .next s') :
    wpAny (model prog w) A (exec (st 17 14) (lenv L c1 c2)) Q E s := by
  refine wpAny_Assign_Name (List_ (Calls.spliced_nil (listI (Nat.zero_le _) fun s₁ D k₁ hD hDn => ?_)))
  obtain ⟨g₂, F₂, hgg, hg₂⟩ := F.grow (LX.live F) k₁
  exact F₂.store rfl fun s₃ F₃ kb ht => h s₃ D g₂ F₃ hgg (let ⟨n, e⟩ := hD; ⟨n, hg₂ _ _ hDn e⟩) (Nat.le_trans k₁.tok ht)
end
end Mine
namespace Mine
open PySem PySem.W PyProof.Rows

/-- the counts of lesser codes, by code -/
def LessAt (h : Heap) (Dl : Addr) (C : List Nat) : Prop := ∃ f, h.IntMap Dl f ∧ ∀ c ∈ zs C, ∃ t, f c = some (.int ((zs C).countP (fun x => decide (x < c)) : Nat) t)
theorem LessAt.up {h h' : Heap} {Dl : Addr} {C : List Nat} (x : LessAt h Dl C) (k : Sub h h') : LessAt h' Dl C := by
  obtain ⟨f, ⟨o, es, ep, ho, r⟩, h2⟩ := x
  exact ⟨f, ⟨o, es, ep, k _ _ ho, r⟩, h2⟩
/-- values that the marks of vs vouch for -/
structure Vouched (vs : List Value) : Prop where
  coh : Coh vs
  pos : ∀ (i : Int) (t : Nat), Value.int i t ∈ vs → 1 ≤ t
theorem Vouched.safe {vs us : List Value} {c : Int} {u : Nat} (V : Vouched vs) (h : ∀ v ∈ us, v ∈ vs) (hc : Value.int c u ∈ vs) : u ≠ 0 ∧ Safe us c u := by
  refine ⟨by have := V.pos c u hc; omega, fun i t hm => ⟨by have := V.pos i t (h _ hm); intro q; rw [q] at this; exact absurd this (by decide), fun e => ?_⟩⟩
  subst e
  exact V.coh i c t (h _ hm) hc

section
variable {prog : Program} {w : World} {A : Around} {E : Value → Shared → Prop} {s s₀ : Shared} {X : List Addr} {g : Heap} {m cm : Str → Option Value} {L c1 c2 : Addr} {env : Env}

theorem lessK {x : Str} {p2 p3 p4 : Pos} {Dl : Addr} {C : List Nat} {c : Int} {u : Tok} {Q : Value → Shared → Prop} (F : LF s₀ X g (lenv L c1 c2) m cm s) (kx : (lenv L c1 c2).kindOf x = some .local) (hx : m x = some (.int c u)) (dx : (x == ("__debug__" : Str)) = false)
    (hl : m "lesser" = some (.ref Dl)) (hL : LessAt g Dl C) (hc : c ∈ zs C) (h : ∀ s' t, Kp s s' → Q (.int ((zs C).countP (fun x => decide (x < c)) : Nat) t) s') :
    wpAny (model prog w) A (eval (.Subscript (.Name "lesser" p2) (.Name x p3) p4) (lenv L c1 c2)) Q E s := by
  obtain ⟨f, hm, hf⟩ := hL.up F.sub
  obtain ⟨t, ht⟩ := hf c hc
  exact Subscript_ (F.name rfl hl (F.name kx hx (tail_any (T := "dict") (ops := [.ref Dl, .int c u]) hm.typeIs slot_dict_getitem.lookup (wpAny_getItem_intMap hm ht (h _ t Kp.one)) (by with_unfolding_all rfl)) dx))

theorem colK {y : Str} {p6 p7 p8 p9 : Pos} {Dk : Addr} {cvs : List Value} {p : Nat} {t : Tok} {Q : Value → Shared → Prop} (F : LF s₀ X g (lenv L c1 c2) m cm s) (ky : (lenv L c1 c2).kindOf y = some .local) (hy : m y = some (.int (p : Nat) t)) (dy : (y == ("__debug__" : Str)) = false)
    (hk : m "column" = some (.ref Dk)) (hK : LL g Dk cvs) (hz : cvs.length ≤ 1000) (hp : p ≤ cvs.length) (h : ∀ s' D, Kp s s' → LL s'.heap D (cvs.take p) → s.heap.get? D = none → Q (.ref D) s') :
    wpAny (model prog w) A (eval (.Subscript (.Name "column" p6) (.Slice none (some (.Name y p7)) none p8) p9) (lenv L c1 c2)) Q E s := by
  refine sliceK (F.name rfl hk (part_none (part_some (F.name ky hy (part_none ⟨Dk, cvs, none, some (p : Int), none, rfl, (hK.up F.sub).is, hz, .none, .int _ _, .none, by decide, fun D s' k hD hn => ?_⟩) dy))))
  rw [slicePick_upto _ _ (by rw [List.size_toArray]; exact hp)] at hD
  simp only [List.toList_toArray] at hD
  exact h s' D k hD hn

theorem stepK {x y : Str} {p1 p2 p3 p4 p5 p6 p7 p8 p9 p10 p11 p12 : Pos} {Dl Dk : Addr} {C : List Nat} {vs cvs : List Value} {cs : List Int} {c : Int} {u : Nat} {p : Nat} {t : Tok} {Q : Value → Shared → Prop} (G : Glb g) (hh : A.handled = none) (hroom : A.depth < recursionLimit)
    (F : LF s₀ X g (lenv L c1 c2) m cm s) (kx : (lenv L c1 c2).kindOf x = some .local) (ky : (lenv L c1 c2).kindOf y = some .local) (hx : m x = some (.int c u)) (hy : m y = some (.int (p : Nat) t)) (dx : (x == ("__debug__" : Str)) = false) (dy : (y == ("__debug__" : Str)) = false)
    (hl : m "lesser" = some (.ref Dl)) (hL : LessAt g Dl C) (hc : c ∈ zs C) (hk : m "column" = some (.ref Dk)) (hK : LL g Dk cvs) (hI : IntsAre cvs cs) (hz : cvs.length ≤ 1000) (hp : p ≤ cvs.length)
    (V : Vouched vs) (hcv : ∀ v ∈ cvs, v ∈ vs) (hu : u ≠ 0 ∧ Safe cvs c u)
    (h : ∀ s' t', Kp s s' → Q (.int (((zs C).countP (fun x => decide (x < c)) + (cs.take p).count c : Nat) : Int) t') s') :
    wpAny (model prog w) A (eval (.Call (.Name "add" p1) [.Subscript (.Name "lesser" p2) (.Name x p3) p4, .Call (.Name "countOf" p5) [.Subscript (.Name "column" p6) (.Slice none (some (.Name y p7)) none p8) p9, .Name x p10] [] p11] [] p12) (lenv L c1 c2)) Q E s := by
  have G₁ := G.up F.sub
  refine call2F (name := "add") (k := 2) (c := 37) (G₁.nameU (fun mg n => n.add) ⟨rfl, rfl⟩) (lessK F kx hx dx hl hL hc fun s₁ t₁ k₁ => ?_) (by rfl)
  have F₁ := F.kp k₁
  have G₂ := G₁.up k₁.sub
  refine call2F (name := "countOf") (k := 4) (c := 51) (G₂.nameU (fun mg n => n.countOf) ⟨rfl, rfl⟩) (colK F₁ ky hy dy hk hK hz hp fun s₂ D k₂ hD hDn => (F₁.kp k₂).name kx hx ⟨(G₂.up k₂.sub).fCount, ?_⟩ dx) (by rfl)
  refine call_countOf (G₂.up k₂.sub) hh hroom hD.is (ints_take hI p) hu.1 (fun i t hm => hu.2 i t (List.mem_of_mem_take hm)) fun t₃ s₃ k₃ => ?_
  have G₃ := (G₂.up k₂.sub).up k₃.sub
  refine ⟨G₃.fAdd, call_add G₃ hroom fun v s₄ k₄ hM => ?_⟩
  obtain ⟨t', rfl, _, _⟩ := hM
  have e : (((zs C).countP (fun x => decide (x < c)) : Nat) : Int) + (((cs.take p).count c : Nat) : Int) = (((zs C).countP (fun x => decide (x < c)) + (cs.take p).count c : Nat) : Int) := by push_cast; rfl
  rw [e]
  exact h s₄ t' (((k₁.trans k₂).trans k₃).trans k₄)
end
end Mine
namespace Mine
open PySem PySem.W PyProof.Rows

section
variable {prog : Program} {w : World} {A : Around} {E : Value → Shared → Prop} {s s₀ : Shared} {X : List Addr} {g : Heap} {m cm : Str → Option Value} {L c1 c2 : Addr} {env : Env}

/-- a for over a list's iterator that stands at place i₀ -/
theorem for_iter2 {R : Result → Shared → Prop} {x : Str} {px : Pos} {body : List Stmt} {I l : Addr} {vs : List Value} {i₀ : Nat} (J : Nat → Heap → (Str → Option Value) → Prop)
    (hh : A.handled = none) (F : LF s₀ X g env m cm s) (hI : s.heap.IsListIter I l i₀) (hIX : I ∈ X) (hl : g.IsList l vs.toArray) (hi₀ : i₀ ≤ vs.length) (hx : env.kindOf x = some .local)
    (hJ : J i₀ g m)
    (turn : ∀ (E' : Value → Shared → Prop) i v g₁ m₁ s₁, i₀ ≤ i → vs[i]? = some v → Sub g g₁ → J i g₁ m₁ → LF s₀ X g₁ env (upd m₁ x v) cm s₁ → s₁.heap.IsListIter I l (i + 1) → s.toks ≤ s₁.toks →
      wpAny (model prog w) A (execs body env) (fun f s₂ => match f with
        | .next | .cont => ∃ g₂ m₂, Sub g₁ g₂ ∧ J (i + 1) g₂ m₂ ∧ LF s₀ X g₂ env m₂ cm s₂ ∧ KB env.locals s₁ s₂ ∧ s₁.toks ≤ s₂.toks
        | .brk => R (.ok .next) s₂
        | .ret v => R (.ok (.ret v)) s₂) E' s₁)
    (done : ∀ g₁ m₁ s₁, Sub g g₁ → J vs.length g₁ m₁ → LF s₀ X g₁ env m₁ cm s₁ → s.toks ≤ s₁.toks → R (.ok .next) s₁) :
    codeAny (model prog w) A (.forLoop (.Name x px) (.ref I) body [] env) R s := by
  refine codeAny_forLoop_any
    (fun n s₁ => ∃ i g₁ m₁, n = vs.length - i ∧ i₀ ≤ i ∧ i ≤ vs.length ∧ Sub g g₁ ∧ J i g₁ m₁ ∧ LF s₀ X g₁ env m₁ cm s₁ ∧ s₁.heap.IsListIter I l i ∧ s.toks ≤ s₁.toks) ?_ (vs.length - i₀)
    ⟨i₀, g, m, rfl, Nat.le_refl _, hi₀, Sub.refl, hJ, F, hI, Nat.le_refl _⟩
  rintro n s₁ ⟨i, g₁, m₁, rfl, h0, h1, hg, hJ', F₁, hI₁, ht⟩
  have hl₁ : s₁.heap.IsList l vs.toArray := hl.at fun o e => F₁.sub _ _ (hg _ _ e)
  have hIl : I ≠ env.locals := by
    rintro rfl
    obtain ⟨o, es, ep, ho, hd, _⟩ := F₁.ns
    obtain ⟨o', ho', _, hd'⟩ := hI₁
    rw [ho] at ho'; cases ho'; rw [hd] at hd'; cases hd'
  have off : ∀ b o, g₁.get? b = some o → b ≠ I := fun b o e q => by rw [q, F₁.off _ hIX] at e; cases e
  have moved : ∀ h' tk, s₁.toks ≤ tk → (∀ b o, b ≠ I → s₁.heap.get? b = some o → h'.get? b = some o) → LF s₀ X g₁ env m₁ cm { s₁ with heap := h', toks := tk } := fun h' tk htk hk =>
    { F₁ with same := (by obtain ⟨hh, tk', rfl⟩ := F₁.same; exact ⟨h', tk, rfl⟩), tok := Nat.le_trans F₁.tok htk, sub := fun b o e => hk b o (off b o e) (F₁.sub b o e),
              ns := F₁.ns.at' fun o e => hk _ _ (Ne.symm hIl) e,
              cell := fun n c e => by
                obtain ⟨o, ho, hd⟩ := F₁.cell n c e
                refine ⟨o, hk c o ?_ ho, hd⟩
                rintro rfl
                obtain ⟨o', ho', _, hd'⟩ := hI₁
                rw [ho] at ho'; cases ho'; rw [hd] at hd'; cases hd' }
  cases hv : vs[i]? with
  | none =>
    refine wpAny_pyNext_list_end hh hI₁ hl₁ (by simpa using hv) fun h' he => ?_
    refine wpAny_execs_nil ?_
    have hi : i = vs.length := by have := List.getElem?_eq_none_iff.mp hv; omega
    subst hi
    exact done g₁ m₁ _ hg hJ' (moved h' _ (Nat.le_refl _) fun b o hb e => he b o hb e) ht
  | some v =>
    have hlt : i < vs.length := (List.getElem?_eq_some_iff.mp hv).1
    refine wpAny_pyNext_list_item hI₁ hl₁ (by simpa using hv) fun h' hI' hs' => ?_
    show wpAny _ _ (pure ()) _ _ _
    refine wpAny_pure ?_
    refine (moved h' _ (Nat.le_refl _) fun b o hb e => hs'.extBut b o hb e).assign hx fun s₂ F₂ kb₂ ht₂ => ?_
    refine wpAny_mono (turn _ i v g₁ m₁ s₂ h0 hv hg hJ' F₂ (hI'.at fun o e => kb₂ _ _ hIl e) (Nat.le_trans ht ht₂)) (fun f s₃ h₃ => ?_) fun _ _ e => e
    have fin : (∃ g₂ m₂, Sub g₁ g₂ ∧ J (i + 1) g₂ m₂ ∧ LF s₀ X g₂ env m₂ cm s₃ ∧ KB env.locals s₂ s₃ ∧ s₂.toks ≤ s₃.toks) → ∃ m, m < vs.length - i ∧ ∃ i' g₁' m₁', m = vs.length - i' ∧ i₀ ≤ i' ∧ i' ≤ vs.length ∧ Sub g g₁' ∧ J i' g₁' m₁' ∧ LF s₀ X g₁' env m₁' cm s₃ ∧ s₃.heap.IsListIter I l i' ∧ s.toks ≤ s₃.toks := by
      rintro ⟨g₂, m₂, hg₂, hJ₂, F₃, kb₃, ht₃⟩
      exact ⟨vs.length - (i + 1), by omega, i + 1, g₂, m₂, rfl, by omega, hlt, hg.trans hg₂, hJ₂, F₃, hI'.at fun o e => kb₃ _ _ hIl (kb₂ _ _ hIl e), Nat.le_trans (Nat.le_trans ht ht₂) ht₃⟩
    cases f with
    | next => exact fin h₃
    | cont => exact fin h₃
    | brk => exact h₃
    | ret v => exact h₃

theorem LX.alive (F : LF s₀ X g (lenv L c1 c2) m cm s) : ∀ a ∈ LX L c1 c2, ∃ o, s.heap.get? a = some o := by
  intro a ha
  rcases List.mem_cons.mp ha with q | ha
  · obtain ⟨o, _, _, e, _⟩ := F.ns; rw [q]; exact ⟨o, e⟩
  rcases List.mem_cons.mp ha with q | ha
  · obtain ⟨o, e, _⟩ := F.cell "codes" c1 rfl; rw [q]; exact ⟨o, e⟩
  · obtain ⟨o, e, _⟩ := F.cell "ordered" c2 rfl; rw [List.mem_singleton.mp ha]; exact ⟨o, e⟩

theorem drop_pred {cs : List Int} {j : Nat} (h : j < cs.length) : cs.drop j = cs.getD j 0 :: cs.drop (j + 1) := by
  rw [List.drop_eq_getElem_cons h]
  congr 1
  rw [List.getD_eq_getElem?_getD, List.getElem?_eq_getElem h]
  rfl

theorem l17_15_turn {Dl Dk Db : Addr} {C : List Nat} {vs cvs bvs : List Value} {rows : List (List Int)} {j p : Nat} {t : Tok} {Q : Flow → Shared → Prop} (G : Glb g) (hh : A.handled = none) (hroom : A.depth < recursionLimit) (F : LF s₀ X g (lenv L c1 c2) m cm s) (hX : ∀ a ∈ X, ∃ o, s.heap.get? a = some o)
    (hl : m "lesser" = some (.ref Dl)) (hL : LessAt g Dl C) (hk : m "column" = some (.ref Dk)) (hK : LL g Dk cvs) (hI : IntsAre cvs (rows.map lst)) (hz : C.length ≤ 1000) (T : Turned (zs C) rows) (V : Vouched vs) (hcv : ∀ v ∈ cvs, v ∈ vs)
    (hp : m "place" = some (.int (p : Nat) t)) (hrow : rows[p]? = some (rot (zs C) (j + 1))) (hj : j < C.length) (hb : m "back" = some (.ref Db)) (hB : LL g Db bvs) (hBI : IntsAre bvs ((zs C).drop (j + 1)))
    (h : ∀ s' m' g' p' t' Db' bvs', LF s₀ X g' (lenv L c1 c2) m' cm s' → Sub g g' → m' "lesser" = some (.ref Dl) → m' "column" = some (.ref Dk) → m' "numbers" = m "numbers" → m' "place" = some (.int (p' : Nat) t') → rows[p']? = some (rot (zs C) j) →
      m' "back" = some (.ref Db') → LL g' Db' bvs' → IntsAre bvs' ((zs C).drop j) → KB (lenv L c1 c2).locals s s' → s.toks ≤ s'.toks → Q .next s') :
    wpAny (model prog w) A (execs (within (st 17 15)) (lenv L c1 c2)) Q E s := by
  have G₁ := G.up F.sub
  have hrl : rows.length = C.length := T.size.trans (List.length_map _)
  have hcl : cvs.length = C.length := hI.length.trans ((List.length_map _).trans hrl)
  have hpl : p < C.length := by rw [← hrl]; exact (List.getElem?_eq_some_iff.mp hrow).1
  have hjz : j < (zs C).length := by rw [List.length_map]; exact hj
  obtain ⟨r1, r2⟩ := rotR_rot hjz
  obtain ⟨c, u, hcx, hcv'⟩ := ints_at hI (List.getElem?_eq_getElem (by omega : p < cvs.length))
  have hcl' : c = lst (rot (zs C) (j + 1)) := by
    rw [List.getElem?_map, hrow] at hcx
    simpa using hcx.symm
  have hcz : c = (zs C).getD j 0 := hcl'.trans r2
  have hcm : c ∈ zs C := by
    rw [hcz, List.getD_eq_getElem?_getD, List.getElem?_eq_getElem hjz]
    exact List.getElem_mem _
  have hmem : Value.int c u ∈ cvs := hcv' ▸ List.getElem_mem _
  refine wpAny_execs_cons (wpAny_Assign_Name (call2F (name := "getitem") (k := 5) (c := 58) (G₁.nameU (fun mg n => n.getitem) ⟨rfl, rfl⟩) (F.name rfl hk (F.name rfl hp ⟨G₁.fGet, call_getitem G₁ hroom (hK.up F.sub).is (by omega) (by omega) (v := .int c u) (by rw [Int.toNat_natCast, List.getElem?_eq_getElem (by omega), hcv']) fun s₁ k₁ => ?_⟩)) (by rfl)))
  refine (F.kp k₁).store rfl fun s₂ F₂ kb₂ ht₂ => ?_
  have a1 : upd m "code" (.int c u) "code" = some (.int c u) := rfl
  have a2 : upd m "code" (.int c u) "back" = some (.ref Db) := hb
  have X₂ : ∀ a ∈ X, ∃ o, s₂.heap.get? a = some o := fun a ha => by
    obtain ⟨o, e⟩ := hX a ha
    by_cases q : a = (lenv L c1 c2).locals
    · rw [q]; obtain ⟨o', _, _, e', _⟩ := F₂.ns; exact ⟨o', e'⟩
    · exact ⟨o, kb₂ a o q (k₁.sub _ _ e)⟩
  refine wpAny_execs_cons (wpAny_Assign_Name (wpAny_BinOp (List_ (Calls.spliced_cons (F₂.name rfl a1 (Calls.spliced_nil (listI (Nat.le_of_ble_eq_true rfl) fun s₃ D₃ k₃ hD₃ hDn₃ => ?_)))))))
  refine (F₂.kp k₃).name rfl a2 (catI hD₃ ((hB.up F₂.sub).up k₃.sub) ?_ fun s₄ D₄ k₄ hD₄ hDn₄ => ?_)
  · have : bvs.length ≤ C.length := by rw [hBI.length, List.length_drop, List.length_map]; omega
    rw [sizeLine_eq]; simp; omega
  obtain ⟨g₄, F₄, hgg, hg₄⟩ := F₂.grow X₂ (k₃.trans k₄)
  have hD₄s : s₂.heap.get? D₄ = none := by
    cases e : s₂.heap.get? D₄ with
    | none => rfl
    | some o => rw [k₃.sub _ _ e] at hDn₄; cases hDn₄
  have hD₄g : LL g₄ D₄ ([.int c u] ++ bvs) := let ⟨n, e⟩ := hD₄; ⟨n, hg₄ _ _ hD₄s e⟩
  refine F₄.store rfl fun s₅ F₅ kb₅ ht₅ => ?_
  have b1 : upd (upd m "code" (.int c u)) "back" (.ref D₄) "code" = some (.int c u) := rfl
  have b2 : upd (upd m "code" (.int c u)) "back" (.ref D₄) "place" = some (.int (p : Nat) t) := hp
  have b3 : upd (upd m "code" (.int c u)) "back" (.ref D₄) "lesser" = some (.ref Dl) := hl
  have b4 : upd (upd m "code" (.int c u)) "back" (.ref D₄) "column" = some (.ref Dk) := hk
  refine wpAny_execs_cons (wpAny_Assign_Name (stepK (x := "code") (y := "place") (G.up hgg) hh hroom F₅ rfl rfl b1 b2 rfl rfl b3 (hL.up hgg) hcm b4 (hK.up hgg) hI (by omega) (by omega) V hcv (V.safe hcv (hcv _ hmem)) fun s₆ t₆ k₆ => ?_))
  refine (F₅.kp k₆).store rfl fun s₇ F₇ kb₇ ht₇ => wpAny_execs_nil ?_
  have hstep := T.step hrow
  rw [← hcl', T.less c, r1] at hstep
  refine h s₇ _ g₄ _ t₆ D₄ _ F₇ hgg b3 b4 rfl (if_pos rfl) hstep rfl hD₄g ?_ ?_ ?_
  · rw [drop_pred hjz, ← hcz]
    exact .cons c u hBI
  · exact (KB.ofSub k₁.sub).trans (kb₂.trans ((KB.ofSub (k₃.trans k₄).sub).trans (kb₅.trans ((KB.ofSub k₆.sub).trans kb₇))))
  · exact Nat.le_trans k₁.tok (Nat.le_trans ht₂ (Nat.le_trans (k₃.trans k₄).tok (Nat.le_trans ht₅ (Nat.le_trans k₆.tok ht₇))))

theorem l17_15 {Dc Dl Dk Db : Addr} {C : List Nat} {vs cvs : List Value} {rows : List (List Int)} {t : Tok} {Q : Flow → Shared → Prop} (G : Glb g) (hh : A.handled = none) (hroom : A.depth < recursionLimit) (F : LF s₀ (LX L c1 c2) g (lenv L c1 c2) m cm s)
    (hc : cm "codes" = some (.ref Dc)) (hD : LL g Dc vs) (hvI : IntsAre vs (zs C))
    (hl : m "lesser" = some (.ref Dl)) (hL : LessAt g Dl C) (hk : m "column" = some (.ref Dk)) (hK : LL g Dk cvs) (hI : IntsAre cvs (rows.map lst)) (hz : C.length ≤ 1000) (T : Turned (zs C) rows) (V : Vouched vs) (hcv : ∀ v ∈ cvs, v ∈ vs)
    (hp : m "place" = some (.int (rows.idxOf (zs C) : Nat) t)) (hb : m "back" = some (.ref Db)) (hB : LL g Db [])
    (h : ∀ s' m' g' Db' bvs', LF s₀ (LX L c1 c2) g' (lenv L c1 c2) m' cm s' → Sub g g' → m' "lesser" = some (.ref Dl) → m' "column" = some (.ref Dk) → m' "numbers" = m "numbers" → m' "back" = some (.ref Db') → LL g' Db' bvs' → IntsAre bvs' (zs C) → s.toks ≤ s'.toks → Q .next s') :
    wpAny (model prog w) A (exec (st 17 15) (lenv L c1 c2)) Q E s := by
  have hvl : vs.length = C.length := hvI.length.trans (List.length_map _)
  have hzl : (zs C).length = C.length := List.length_map _
  have hDs := hD.up F.sub
  refine wpAny_For (F.nameC rfl rfl hc (wpAny_pyIter_list hDs.is ?_))
  have F₂ := (F.more F.fresh).kp (Kp.heap (s := s) (h := s.heap.push { cls := .type "list_iterator", data := .fields #[.ref Dc, .int 0 0] }) (k := s.toks) (fun b o e => Heap.get?_push_of_some _ e) (Nat.le_refl _))
  have hmem : zs C ∈ rows := by
    refine T.perm.mem_iff.mpr (List.mem_map.mpr ⟨0, ?_, rot_zero _⟩)
    exact List.mem_range.mpr (List.length_pos_iff.mpr T.ne)
  have hrow0 : rows[rows.idxOf (zs C)]? = some (rot (zs C) C.length) := by
    have hlt := List.idxOf_lt_length_iff.mpr hmem
    rw [List.getElem?_eq_getElem hlt, List.getElem_idxOf hlt, ← hzl, rot_full]
  refine for_iter2 (vs := vs) (J := fun i g₁ m₁ => m₁ "lesser" = some (.ref Dl) ∧ m₁ "column" = some (.ref Dk) ∧ m₁ "numbers" = m "numbers" ∧ ∃ (p : Nat) (t : Tok) (Db : Addr) (bvs : List Value), m₁ "place" = some (.int (p : Nat) t) ∧ rows[p]? = some (rot (zs C) (C.length - i)) ∧ m₁ "back" = some (.ref Db) ∧ LL g₁ Db bvs ∧ IntsAre bvs ((zs C).drop (C.length - i)))
    hh F₂ ⟨_, Heap.get?_push_size _ rfl, rfl, rfl⟩ (.head _) hD.is (Nat.zero_le _) rfl ⟨hl, hk, rfl, _, t, Db, [], hp, hrow0, hb, hB, by rw [Nat.sub_zero, ← hzl, List.drop_length]; exact .nil⟩ ?_ ?_
  · rintro E' i v g₁ m₁ s₁ _ hv hsub ⟨j1, j2, j3, p, t', Db', bvs, j4, j5, j6, j7, j8⟩ F₃ hI₃ _
    have hi : i < C.length := by rw [← hvl]; exact (List.getElem?_eq_some_iff.mp hv).1
    have e1 : C.length - i = (C.length - (i + 1)) + 1 := by omega
    rw [e1] at j5 j8
    refine l17_15_turn (G.up hsub) hh hroom F₃ (fun a ha => ?_) (m := upd m₁ "_" v) j1 (hL.up hsub) j2 (hK.up hsub) hI hz T V hcv j4 j5 (by omega) j6 j7 j8 fun s' m' g' p' t'' Db'' bvs' F' hs1 k1 k2 k3 k4 k5 k6 k7 k8 kb kt => ?_
    · rcases List.mem_cons.mp ha with q | ha
      · obtain ⟨o, e, _⟩ := hI₃; rw [q]; exact ⟨o, e⟩
      · exact LX.alive F₃ a ha
    · exact ⟨g', m', hs1, ⟨k1, k2, k3.trans j3, p', t'', Db'', bvs', k4, k5, k6, k7, k8⟩, F', kb, kt⟩
  · rintro g₁ m₁ s₁ hsub ⟨j1, j2, j3, p, t', Db', bvs, j4, j5, j6, j7, j8⟩ F₃ ht
    rw [hvl, Nat.sub_self, List.drop_zero] at j8
    have F₄ := LX.less (Y := [_]) F₃
    exact h s₁ m₁ g₁ Db' bvs F₄ hsub j1 j2 j3 j6 j7 j8 ht
end
end Mine
namespace Mine
open PySem PySem.W PyProof.Rows

section
variable {prog : Program} {w : World} {A : Around} {E : Value → Shared → Prop} {s s₀ : Shared} {X : List Addr} {g : Heap} {m cm : Str → Option Value} {L c1 c2 : Addr} {env : Env}

theorem l17_16 {Dc Db : Addr} {C : List Nat} {vs bvs : List Value} {Q : Flow → Shared → Prop} (hun : A.units + 64 < cLine) (F : LF s₀ (LX L c1 c2) g (lenv L c1 c2) m cm s)
    (hc : cm "codes" = some (.ref Dc)) (hD : LL g Dc vs) (hvI : IntsAre vs (zs C)) (hb : m "back" = some (.ref Db)) (hB : LL g Db bvs) (hBI : IntsAre bvs (zs C))
    (h : Q .next s) :
    wpAny (model prog w) A (exec (st 17 16) (lenv L c1 c2)) Q E s := by
  refine wpAny_If (wpAny_isTrue_Compare1 (F.name rfl hb (F.nameC rfl rfl hc (ne_intsK ((hB.up F.sub).is) hBI ((hD.up F.sub).is) hvI hun (wpAny_truthy_bool ?_)))))
  rw [decide_eq_true rfl]
  simp only [Bool.not_true, Bool.false_eq_true, if_false]
  exact wpAny_execs_nil h

end
end Mine
namespace Mine
open PySem PySem.W PyProof.Rows

/-- strictly rising -/
def Asc (xs : Array Nat) : Prop := xs.toList.Pairwise (· < ·)
theorem Asc.lt {xs : Array Nat} (h : Asc xs) {i j : Nat} (hij : i < j) (hj : j < xs.size) : xs.getD i 0 < xs.getD j 0 := by
  have := List.pairwise_iff_getElem.mp h i j (by simpa using Nat.lt_trans hij hj) (by simpa using hj) hij
  simpa [Array.getD, Nat.lt_trans hij hj, hj] using this
theorem below_go {xs : Array Nat} (h : Asc xs) (j : Nat) : ∀ fuel lo hi, lo ≤ hi → hi ≤ xs.size → hi - lo ≤ fuel → (∀ i, i < lo → xs.getD i 0 < j) → (∀ i, hi ≤ i → i < xs.size → j ≤ xs.getD i 0) →
    SetTable.below.go xs j fuel lo hi ≤ xs.size ∧ (∀ i, i < SetTable.below.go xs j fuel lo hi → xs.getD i 0 < j) ∧ (∀ i, SetTable.below.go xs j fuel lo hi ≤ i → i < xs.size → j ≤ xs.getD i 0)
  | 0, lo, hi, h1, h2, h3, h4, h5 => by
    have e : hi = lo := by omega
    subst e
    exact ⟨h2, h4, h5⟩
  | fuel + 1, lo, hi, h1, h2, h3, h4, h5 => by
    unfold SetTable.below.go
    by_cases hlt : lo < hi
    · rw [if_pos hlt]
      have hm : (lo + hi) / 2 < hi := by omega
      have hm' : lo ≤ (lo + hi) / 2 := by omega
      have hms : (lo + hi) / 2 < xs.size := by omega
      have e : xs.getD ((lo + hi) / 2) j = xs.getD ((lo + hi) / 2) 0 := by simp [Array.getD, hms]
      dsimp only
      rw [e]
      by_cases hc : xs.getD ((lo + hi) / 2) 0 < j
      · rw [if_pos hc]
        refine below_go h j fuel _ _ (by omega) h2 (by omega) (fun i hi' => ?_) h5
        rcases Nat.lt_or_ge i ((lo + hi) / 2) with q | q
        · exact Nat.lt_trans (h.lt q hms) hc
        · have : i = (lo + hi) / 2 := by omega
          rw [this]; exact hc
      · rw [if_neg hc]
        refine below_go h j fuel _ _ hm' (by omega) (by omega) h4 (fun i hi' his => ?_)
        rcases Nat.lt_or_ge ((lo + hi) / 2) i with q | q
        · exact Nat.le_trans (Nat.not_lt.mp hc) (Nat.le_of_lt (h.lt q his))
        · have : i = (lo + hi) / 2 := by omega
          rw [this]; exact Nat.not_lt.mp hc
    · rw [if_neg hlt]
      have e : hi = lo := by omega
      subst e
      exact ⟨h2, h4, h5⟩
theorem below_spec {xs : Array Nat} (h : Asc xs) (j : Nat) : SetTable.below xs j ≤ xs.size ∧ (∀ i, i < SetTable.below xs j → xs.getD i 0 < j) ∧ (∀ i, SetTable.below xs j ≤ i → i < xs.size → j ≤ xs.getD i 0) :=
  below_go h j xs.size 0 xs.size (Nat.zero_le _) (Nat.le_refl _) (by omega) (fun i hi => absurd hi (Nat.not_lt_zero _)) (fun i h1 h2 => absurd h2 (by omega))

theorem asc_insert {xs : Array Nat} (h : Asc xs) {j : Nat} (hj : xs[SetTable.below xs j]? ≠ some j) : Asc (SetTable.insertAt xs (SetTable.below xs j) j) := by
  obtain ⟨h1, h2, h3⟩ := below_spec h j
  unfold Asc
  rw [SetTable.toList_insertAt]
  rw [List.pairwise_append]
  have lo : ∀ a ∈ xs.toList.take (SetTable.below xs j), a < j := fun a ha => by
    obtain ⟨i, hi, e⟩ := List.mem_iff_getElem.mp ha
    rw [List.length_take] at hi
    have := h2 i (by omega)
    rw [List.getElem_take] at e
    rw [← e]
    simpa [Array.getD, show i < xs.size by simp at hi; omega] using this
  have hi : ∀ a ∈ xs.toList.drop (SetTable.below xs j), j < a := fun a ha => by
    obtain ⟨i, hi, e⟩ := List.mem_iff_getElem.mp ha
    rw [List.length_drop, Array.length_toList] at hi
    rw [List.getElem_drop] at e
    have hs : SetTable.below xs j + i < xs.size := by omega
    have h4 := h3 (SetTable.below xs j + i) (by omega) hs
    have e' : xs.getD (SetTable.below xs j + i) 0 = a := by rw [← e]; simp [Array.getD, hs]
    rw [e'] at h4
    refine Nat.lt_of_le_of_ne h4 fun q => ?_
    rcases Nat.eq_zero_or_pos i with z | z
    · subst z
      apply hj
      simp only [Nat.add_zero] at hs e'
      rw [Array.getElem?_eq_getElem hs]
      exact congrArg some ((by simpa [Array.getD, hs] using e' : xs[SetTable.below xs j] = a).trans q.symm)
    · have h5 := h3 (SetTable.below xs j) (Nat.le_refl _) (by omega)
      have h6 := h.lt (i := SetTable.below xs j) (j := SetTable.below xs j + i) (by omega) hs
      rw [e'] at h6
      omega
  refine ⟨List.Pairwise.sublist (List.take_sublist _ _) h, ?_, fun a ha b hb => ?_⟩
  · exact List.pairwise_cons.mpr ⟨hi, List.Pairwise.sublist (List.drop_sublist _ _) h⟩
  · rcases List.mem_cons.mp hb with rfl | hb
    · exact lo a ha
    · exact Nat.lt_trans (lo a ha) (hi b hb)

/-- what we ask of a set's table, beyond that it fits -/
structure TabOk (b : Bool) (t : SetTable) : Prop where
  led : t.led = b
  dum : t.dummies = #[]
  asc : Asc t.place

theorem asc_range (n : Nat) : Asc (Array.range n) := by
  unfold Asc
  rw [Array.toList_range]
  exact List.pairwise_lt_range
theorem TabOk.fresh (b : Bool) : TabOk b (.fresh 0 0 b) := ⟨rfl, rfl, List.Pairwise.nil⟩
theorem TabOk.standIn {b : Bool} {t : SetTable} (h : TabOk b t) (n : Nat) : TabOk b (t.standIn n) := ⟨h.led, rfl, asc_range n⟩
theorem TabOk.orStandIn {b : Bool} {t : SetTable} (h : TabOk b t) (n : Nat) : TabOk b (t.orStandIn n) := by
  unfold SetTable.orStandIn
  split
  · exact h
  · exact h.standIn n
theorem TabOk.off {b : Bool} {t : SetTable} (h : TabOk b t) (p : Bool) : TabOk b { t with plain := p } := ⟨h.led, h.dum, h.asc⟩

theorem has_nil (j : Nat) : SetTable.has #[] j = false := by simp [SetTable.has]
theorem TabOk.slot_ne {b : Bool} {t : SetTable} (h : TabOk b t) (j : Nat) : t.slot j ≠ .dummy := by
  unfold SetTable.slot
  dsimp only
  split
  · intro e; cases e
  · rw [h.dum, has_nil]; intro e; cases e
theorem TabOk.probe {b : Bool} {t : SetTable} (h : TabOk b t) {hashAt : Nat → Int} {x : Int} : ∀ (fuel : Nat) (p : SetTable.Probe) {j : Nat} {d : Option Nat}, p.dummy = none → SetTable.probe.go t hashAt x fuel p = some (.empty j d) → t.slot j = .empty ∧ d = none
  | 0, p, j, d, hd, e => by unfold SetTable.probe.go at e; cases e
  | fuel + 1, p, j, d, hd, e => by
    unfold SetTable.probe.go at e
    have adv : (t.advance p).dummy = none := by
      unfold SetTable.advance
      split
      · exact hd
      · exact hd
    cases hs : t.slot p.j with
    | empty =>
      rw [hs] at e
      simp only [Option.some.injEq, SetTable.Met.empty.injEq] at e
      exact ⟨e.1 ▸ hs, e.2 ▸ hd⟩
    | dummy => exact absurd hs (h.slot_ne _)
    | live i =>
      rw [hs] at e
      dsimp only at e
      split at e
      · cases e
      · exact h.probe fuel _ adv e
theorem TabOk.freeSlot {b : Bool} {t : SetTable} (h : TabOk b t) {x : Int} {j : Nat} {wd : Bool} (e : t.freeSlot x = some (j, wd)) : t.place[SetTable.below t.place j]? ≠ some j := by
  unfold SetTable.freeSlot at e
  cases hp : t.probe (fun _ => x + 1) x (t.probeStart x) with
  | none => rw [hp] at e; cases e
  | some m =>
    rw [hp] at e
    cases m with
    | candidate _ _ _ => cases e
    | empty j' d =>
      obtain ⟨h1, h2⟩ := h.probe _ _ rfl hp
      subst h2
      simp only [Option.getD_none, Option.some.injEq, Prod.mk.injEq] at e
      rw [e.1] at h1
      unfold SetTable.slot at h1
      dsimp only at h1
      intro q
      rw [q] at h1
      simp at h1

theorem TabOk.layNew {b : Bool} {t : SetTable} (h : TabOk b t) (es : Array (Int × Value)) (x : Int) (v : Value) : TabOk b (layNew t es x v).2.1 := by
  unfold PySem.layNew
  cases hf : t.freeSlot x with
  | none => exact h.standIn _
  | some q =>
    obtain ⟨j, wd⟩ := q
    refine TabOk.orStandIn (t := (t.put j).1) ⟨h.led, ?_, asc_insert h.asc (h.freeSlot hf)⟩ _
    show (if SetTable.has t.dummies j = true then _ else t.dummies) = _
    rw [h.dum, has_nil]
    rfl

theorem TabOk.relaid {b : Bool} {t t' : SetTable} (h : TabOk b t) {hs : Array Int} {wanted : Nat} {o : Array Nat} (e : t.relaid hs wanted = some (t', o)) : TabOk b t' := by
  unfold SetTable.relaid SetTable.laid at e
  cases hl : SetTable.layClean (SetTable.sizeAbove wanted - 1) hs with
  | none => rw [hl] at e; cases e
  | some owner =>
    rw [hl] at e
    simp only [Option.bind_eq_bind, Option.bind_some, Option.pure_def, Option.some.injEq, Prod.mk.injEq] at e
    obtain ⟨e1, -⟩ := e
    subst e1
    refine ⟨h.led, rfl, ?_⟩
    unfold Asc
    simp only
    rw [List.pairwise_map, List.pairwise_filterMap]
    refine List.Pairwise.imp ?_ List.pairwise_lt_range
    intro a c hac p hp q hq
    cases ho : owner.getD a none with
    | none => rw [ho] at hp; cases hp
    | some u =>
      cases ho' : owner.getD c none with
      | none => rw [ho'] at hq; cases hq
      | some u' =>
        rw [ho] at hp; rw [ho'] at hq
        cases hp; cases hq
        exact hac

theorem TabOk.relayAll {b : Bool} {t : SetTable} (h : TabOk b t) (es : Array (Int × Value)) (wanted : Nat) : TabOk b (relayAll t es wanted).2.1 := by
  unfold PySem.relayAll
  cases hr : t.relaid (es.map (·.1)) wanted with
  | none => exact h.standIn _
  | some q =>
    obtain ⟨t', o⟩ := q
    dsimp only
    split
    · exact h.relaid hr
    · exact h.standIn _
end Mine
namespace Mine
open PySem PySem.W PyProof.Rows

def valInt : Value → Int
  | .int i _ => i
  | _ => 0
/-- what a set of ints holds: values of vs, each int of ks just once -/
structure SetData (b : Bool) (vs : List Value) (ks : List Int) (es : Array (Int × Value)) (t : SetTable) : Prop where
  el : ∀ e ∈ es.toList, (∃ i u, e.2 = .int i u ∧ e.1 = hashInt i) ∧ e.2 ∈ vs
  nodup : (es.toList.map (fun e => valInt e.2)).Nodup
  mem : ∀ k, k ∈ es.toList.map (fun e => valInt e.2) ↔ k ∈ ks
  size : es.size ≤ ks.length
  fits : t.fits es.size = true
  tab : TabOk b t
theorem SetData.elems {b : Bool} {vs : List Value} {ks : List Int} {es : Array (Int × Value)} {t : SetTable} (D : SetData b vs ks es t) (prog : Program) (w : World) : ElemsOf (intKind prog w) es.toList := fun e he => by
  obtain ⟨⟨i, u, h1, h2⟩, _⟩ := D.el e he
  exact ⟨⟨i, by rw [h1]; exact intKind_is _ _ _ _, h2⟩, by rw [h1]; rfl⟩
theorem SetData.perm {b : Bool} {vs : List Value} {ks : List Int} {es es' : Array (Int × Value)} {t t' : SetTable} (D : SetData b vs ks es t) (p : es'.toList.Perm es.toList) (hf : t'.fits es'.size = true) (ht : TabOk b t') : SetData b vs ks es' t' where
  el e he := D.el e (p.mem_iff.mp he)
  nodup := (p.map _).nodup_iff.mpr D.nodup
  mem k := ((p.map _).mem_iff).trans (D.mem k)
  size := by
    have := p.length_eq
    simp only [Array.length_toList] at this
    rw [this]; exact D.size
  fits := hf
  tab := ht
theorem SetData.push {b : Bool} {vs : List Value} {ks : List Int} {es es' : Array (Int × Value)} {t t' : SetTable} {c : Int} {u : Tok} (D : SetData b vs ks es t) (p : es'.toList.Perm (es.push (hashInt c, .int c u)).toList) (hc : c ∉ ks) (hv : Value.int c u ∈ vs) (hf : t'.fits es'.size = true) (ht : TabOk b t') : SetData b vs (ks ++ [c]) es' t' where
  el e he := by
    have := p.mem_iff.mp he
    rw [Array.toList_push] at this
    rcases List.mem_append.mp this with q | q
    · exact D.el e q
    · rw [List.mem_singleton] at q; subst q; exact ⟨⟨c, u, rfl, rfl⟩, hv⟩
  nodup := by
    refine (p.map _).nodup_iff.mpr ?_
    rw [Array.toList_push, List.map_append, List.nodup_append]
    refine ⟨D.nodup, by simp, fun x hx y hy => ?_⟩
    simp only [List.map_cons, List.map_nil, List.mem_singleton] at hy
    subst hy
    rintro rfl
    exact hc ((D.mem _).mp hx)
  mem k := by
    refine ((p.map _).mem_iff).trans ?_
    rw [Array.toList_push, List.map_append, List.mem_append, D.mem k, List.mem_append]
    exact Iff.rfl
  size := by
    have := p.length_eq
    simp only [Array.length_toList, Array.size_push] at this
    rw [this, List.length_append, List.length_singleton]
    exact Nat.succ_le_succ D.size
  fits := hf
  tab := ht
theorem SetData.again {b : Bool} {vs : List Value} {ks : List Int} {es : Array (Int × Value)} {t : SetTable} {c : Int} (D : SetData b vs ks es t) (hc : c ∈ ks) : SetData b vs (ks ++ [c]) es t where
  el := D.el
  nodup := D.nodup
  mem k := (D.mem k).trans (by rw [List.mem_append, List.mem_singleton]; exact ⟨.inl, fun h => h.elim id fun e => e ▸ hc⟩)
  size := by rw [List.length_append]; exact Nat.le_trans D.size (Nat.le_add_right _ _)
  fits := D.fits
  tab := D.tab

def SetAt (h : Heap) (a : Addr) (b : Bool) (vs : List Value) (ks : List Int) : Prop := ∃ o es ep t, h.get? a = some o ∧ o.ExactSet ∧ o.data = .set es ep t ∧ SetData b vs ks es t
theorem SetAt.at {h h' : Heap} {a : Addr} {b : Bool} {vs : List Value} {ks : List Int} (x : SetAt h a b vs ks) (k : ∀ o, h.get? a = some o → h'.get? a = some o) : SetAt h' a b vs ks := by
  obtain ⟨o, es, ep, t, ho, r⟩ := x
  exact ⟨o, es, ep, t, k o ho, r⟩

section
variable {prog : Program} {w : World} {A : Around} {E : Value → Shared → Prop} {s : Shared} {b : Bool} {vs : List Value} {ks : List Int}

theorem setAt_store {h : Heap} {a : Addr} {o : Obj} {es : Array (Int × Value)} {ep : Nat} {t : SetTable} (ho : h.get? a = some o) (hex : o.ExactSet) (hd : o.data = .set es ep t) {es' : Array (Int × Value)} {t' : SetTable} :
    (h.update a (Obj.putSet es' t')).get? a = some { o with data := .set es' (ep + 1) t' } := by
  have := Heap.get?_update_self (Obj.putSet es' t') ho (by rw [putSet_of es' t' hd]; rfl)
  rw [putSet_of es' t' hd] at this
  exact this

theorem set_tail {g : Bool → Sem Unit} (hg : ∀ (b : Bool) (s₁ : Shared) (Q' : Unit → Shared → Prop), Q' () s₁ → wpAny (model prog w) A (g b) Q' E s₁)
    {a : Addr} {o : Obj} {es : Array (Int × Value)} {ep : Nat} {t : SetTable} (ho : s.heap.get? a = some o) (hex : o.ExactSet) (hd : o.data = .set es ep t)
    {es1 : Array (Int × Value)} {t2 : SetTable} (D2 : SetData b vs ks es1 t2) (line : es1.size ≤ sizeLine) {wasDummy : Bool} {R : Option Bool → Shared → Prop}
    (h : ∀ h', Heap.SameBut a s.heap h' → SetAt h' a b vs ks → R (some true) { s with heap := h' }) :
    wpAny (model prog w) A (do
        storeSet a es1 t2
        if (!wasDummy && t2.tooFull) = true then do
            g (relayAll t2 es1 (SetTable.grown es1.size)).2.2
            storeSet a (relayAll t2 es1 (SetTable.grown es1.size)).1 (relayAll t2 es1 (SetTable.grown es1.size)).2.1
            pure (some true)
          else pure (some true)) R E s := by
  refine wpAny_bind (wpAny_storeSet_of ho hd ?_ line)
  have ho1 := setAt_store ho hex hd (es' := es1) (t' := t2)
  have hsb1 := Heap.SameBut.update s.heap a (Obj.putSet es1 t2)
  split
  · have hp := relayAll_perm t2 es1 (SetTable.grown es1.size)
    have hfr := relayAll_fits t2 es1 (SetTable.grown es1.size)
    have htr := D2.tab.relayAll es1 (SetTable.grown es1.size)
    generalize hRl : relayAll t2 es1 (SetTable.grown es1.size) = Rl at hp hfr htr ⊢
    obtain ⟨es2, t3, gave2⟩ := Rl
    dsimp only at hp hfr htr ⊢
    have hsz2 : es2.size = es1.size := by have := hp.length_eq; simpa only [Array.length_toList] using this
    refine wpAny_bind (hg _ _ _ ?_)
    refine wpAny_bind (wpAny_storeSet_of ho1 rfl ?_ (by rw [hsz2]; exact line))
    exact wpAny_pure (h _ (hsb1.trans (Heap.SameBut.update _ a _)) ⟨_, es2, _, t3, setAt_store ho1 hex rfl, hex, rfl, D2.perm hp hfr htr⟩)
  · exact wpAny_pure (h _ hsb1 ⟨_, es1, _, t2, ho1, hex, rfl, D2⟩)

theorem set_add {a : Addr} {c : Int} {u : Tok} {Q : Bool → Shared → Prop} (hS : SetAt s.heap a b vs ks) (hv : Value.int c u ∈ vs) (hz : ks.length + 1 < scanBound)
    (h : ∀ r h', Heap.SameBut a s.heap h' → SetAt h' a b vs (ks ++ [c]) → Q r { s with heap := h' }) :
    wpAny (model prog w) A (setAddHashed a (.int c u) (hashInt c)) Q E s := by
  obtain ⟨o, es, ep, t, ho, hex, hd, D⟩ := hS
  have hel := D.elems prog w
  have hb : es.size < scanBound := Nat.lt_of_le_of_lt D.size (by omega)
  have hkey : (intKind prog w).is c (.int c u) = true := intKind_is _ _ _ _
  have hsc : (Value.int c u).scannable = true := rfl
  show wpAny (model prog w) A (setAddHashed a (.int c u) ((intKind prog w).hash c)) Q E s
  unfold setAddHashed setAddHashedIn
  refine wpAny_holding (wpAny_bind (wpAny_setState_of ho hd D.fits ?_))
  dsimp only
  rw [byScan_of hsc hb hel]
  simp only [↓reduceIte]
  unfold setAddByScan
  refine wpAny_bind ?_
  refine wpAny_bind (wpAny_rule ?_)
  refine wpAny_bind (wpAny_setScan_of hkey ho hd D.fits hel ?_)
  cases hr : List.findIdx? (fun e => (intKind prog w).is c e.2) es.toList with
  | some j =>
    dsimp only
    obtain ⟨hj, hpj, _⟩ := List.findIdx?_eq_some_iff_getElem.mp hr
    obtain ⟨t', ht'⟩ := Value.isInt_shape hpj
    refine wpAny_pure (wpAny_pure (h false s.heap (Heap.SameBut.refl a s.heap) ⟨o, es, ep, t, ho, hex, hd, D.again ((D.mem c).mp ?_)⟩))
    exact List.mem_map.mpr ⟨es.toList[j], List.getElem_mem hj, by rw [ht']; rfl⟩
  | none =>
    dsimp only
    have hc : c ∉ ks := fun q => by
      obtain ⟨e, he, hv'⟩ := List.mem_map.mp ((D.mem c).mpr q)
      obtain ⟨⟨i, u', h1, _⟩, _⟩ := D.el e he
      have := List.findIdx?_eq_none_iff.mp hr e he
      rw [h1] at this hv'
      rw [show i = c from hv', intKind_is] at this
      cases this
    have hgw : ∀ (g : Bool) (s₁ : Shared) (Q' : Unit → Shared → Prop), Q' () s₁ → wpAny (model prog w) A (match g with | true => rule "set.scan.the-table-gave-way" | false => pure ()) Q' E s₁ :=
      fun g s₁ Q' hq => by cases g <;> first | exact wpAny_pure hq | exact wpAny_rule hq
    have hperm : List.Perm (layNew t es ((intKind prog w).hash c) (.int c u)).1.toList (es.push (hashInt c, .int c u)).toList := layNew_perm t es (hashInt c) (.int c u)
    have hfits := layNew_fits t es ((intKind prog w).hash c) (.int c u)
    have htab := D.tab.layNew es ((intKind prog w).hash c) (.int c u)
    generalize hL : layNew t es ((intKind prog w).hash c) (.int c u) = L at hperm hfits htab ⊢
    obtain ⟨es1, t1, wasDummy, gave⟩ := L
    dsimp only at hperm hfits htab ⊢
    have hsz1 : es1.size ≤ ks.length + 1 := by
      have := hperm.length_eq
      simp only [Array.length_toList, Array.size_push] at this
      rw [this]; exact Nat.succ_le_succ D.size
    have line : es1.size ≤ sizeLine := fits_of_scanBound (by omega)
    refine wpAny_bind (hgw _ _ _ ?_)
    split
    · refine wpAny_bind ?_
      rw [hashByValue_scannable 8 hsc]
      refine wpAny_pure ?_
      refine set_tail (fun b s₁ Q' hq => by cases b <;> first | exact wpAny_pure hq | exact wpAny_rule hq) ho hex hd (t2 := if plainKind (.int c u) = true then t1 else { t1 with plain := false }) (D.push hperm hc hv (by split; exact hfits; exact SetTable.fits_plain_off hfits) (by split; exact htab; exact htab.off false)) line fun h' hsb hS' => ?_
      exact wpAny_pure (h true h' hsb hS')
    · refine wpAny_bind (wpAny_pure ?_)
      simp only [↓reduceIte]
      refine set_tail (fun b s₁ Q' hq => by cases b <;> first | exact wpAny_pure hq | exact wpAny_rule hq) ho hex hd (D.push hperm hc hv hfits htab) line fun h' hsb hS' => ?_
      exact wpAny_pure (h true h' hsb hS')
end
end Mine
namespace Mine
open PySem PySem.W PyProof.Rows

theorem take_succ_int {vs : List Value} {ns : List Int} (hI : IntsAre vs ns) {i : Nat} {v : Value} (h : vs[i]? = some v) : ∃ c u, v = .int c u ∧ ns.take i ++ [c] = ns.take (i + 1) := by
  obtain ⟨c, u, e1, e2⟩ := ints_at hI h
  refine ⟨c, u, e2, ?_⟩
  rw [List.take_add_one, e1]
  rfl

section
variable {prog : Program} {w : World} {A : Around} {b : Bool}

theorem set_loop {R : Result → Shared → Prop} {I S : Addr} {fp wr : List Addr} {G : Array GenState → Array GenState → Prop} {vs : List Value} {ns : List Int} {St : Nat → Shared → Prop}
    (W : WalksS prog w A.in1 I fp wr G vs.length (fun i v => vs[i]? = some v) St) (hSf : S ∉ fp) (hI : IntsAre vs ns) (hb : ns.length + 1 < scanBound) :
    ∀ (k i : Nat) (s : Shared), vs.length - i = k → i ≤ vs.length → St i s → SetAt s.heap S b vs (ns.take i) →
      (∀ s', Moved (S :: wr) G s s' → SetAt s'.heap S b vs ns → R (.ok (.ret .none)) s') →
      codeAny (model prog w) A (.builtin "set.update.loop" ⟨[.ref S, .ref I], []⟩) R s := by
  have hSw : S ∉ wr := fun h => hSf (W.sub _ h)
  have hsub : ∀ b ∈ wr, b ∈ S :: wr := fun b hb => List.mem_cons_of_mem _ hb
  intro k
  induction k with
  | zero =>
    intro i s hk hi hst hS hR
    have hin : i = vs.length := by omega
    subst hin
    refine codeAny_builtin F.entry_set_update_loop ?_
    rw [Around.under_plainId F.plain_set_update_loop _]
    show wpAny _ A.in1 (pyNext (.ref I) >>= _) _ _ s
    refine wpAny_bind (W.done s _ _ hst fun s' hm => ?_)
    show wpAny _ A.in1 (ret Value.none) _ _ s'
    rw [hI.length, List.take_length] at hS
    exact wpAny_pure (hR s' (hm.mono hsub) (hS.at fun o e => hm.heap S _ hSw e))
  | succ k ih =>
    intro i s hk hi hst hS hR
    have hlt : i < vs.length := by omega
    refine codeAny_builtin F.entry_set_update_loop ?_
    rw [Around.under_plainId F.plain_set_update_loop _]
    show wpAny _ A.in1 (pyNext (.ref I) >>= _) _ _ s
    refine wpAny_bind (W.item i s _ _ hlt hst fun v s' hP hst' hm => ?_)
    obtain ⟨c, u, rfl, htk⟩ := take_succ_int hI hP
    have hS' : SetAt s'.heap S b vs (ns.take i) := hS.at fun o e => hm.heap S _ hSw e
    show wpAny _ A.in1 (holding [Value.int c u] (setAdd S (.int c u)) >>= _) _ _ s'
    refine wpAny_bind (wpAny_holding ?_)
    unfold setAdd
    refine wpAny_holding ?_
    refine wpAny_bind ((intKind prog w).pyHash (k := c) (intKind_is _ _ _ _) ?_)
    refine set_add (s := { s' with toks := s'.toks + 1 }) (ks := ns.take i) hS' (List.mem_of_getElem? hP) (by rw [List.length_take]; omega) fun r h' hsb hS2 => ?_
    rw [htk] at hS2
    refine wpAny_pure ⟨plainId_quiet F.plain_set_update_loop _, ih (i + 1) _ (by omega) hlt (W.frame _ s' _ _ hst' (Nat.le_succ _) fun b hb o e => ?_) hS2 fun s'' hm'' hS'' => ?_⟩
    · rw [hsb.2 b (fun h : b = S => hSf (by rw [← h]; exact hb))]; exact e
    · refine hR s'' (Moved.trans W.gtrans ((hm.mono hsub).then_heap (Nat.le_succ _) fun b o hb e => ?_) hm'') hS''
      rw [hsb.2 b (fun h : b = S => hb (by rw [h]; exact List.mem_cons_self))]; exact e
end

section
variable {prog : Program} {w : World} {A : Around} {E : Value → Shared → Prop} {s : Shared}

/-- whether the text of the world leads this world's sets -/
def ledBy (w : World) : Bool := !w.params.followText "set-order"
def newSetObj (b : Bool) : Obj := { cls := .type "set", dict := none, data := .set #[] 0 (.fresh 0 0 b) }

theorem newSet_at (a : Value) {Q₁ : Value → Shared → Prop}
    (h : Q₁ (.ref s.heap.objs.size) { s with heap := s.heap.push (newSetObj (ledBy w)) }) :
    codeAny (model prog w) A (.call (.builtin "set.__new__") ⟨[.type "set", a], []⟩) (wants Q₁ E) s := by
  refine codeAny_of_tree ?_
  show wpAny _ A.in1 (do checkBuiltinCall "set.__new__" ⟨[.type "set", a], []⟩; again (.builtin "set.__new__" ⟨[.type "set", a], []⟩)) _ _ s
  refine wpAny_bind (wpAny_of_eq (PySem.F.newCall_set_1 a) (wpAny_pure ⟨plainId_quiet PySem.F.plain_set_new _, codeAny_builtin PySem.F.entry_set_new ?_⟩))
  rw [Around.under_plainId PySem.F.plain_set_new _]
  unfold Builtin.«set.__new__» Builtin.Frozenset.newClass
  have hsub := sub_set_self
  obtain ⟨hp, g, d, tk, os⟩ := s
  dsimp only
  wp_walk
  refine wpAny_askSetting (wpAny_pure ?_)
  dsimp only
  simp only [newObj]
  refine wpAny_bind (wpAny_alloc (wpAny_pure ?_))
  exact wpAny_pure h

theorem setAt_new {h : Heap} {a : Addr} {vs : List Value} (b : Bool) (e : h.get? a = some (newSetObj b)) : SetAt h a b vs [] :=
  ⟨_, #[], 0, _, e, ⟨rfl, rfl, rfl⟩, rfl, ⟨fun e he => by simp at he, by simp, fun k => by simp, Nat.le_refl _, by rfl, TabOk.fresh b⟩⟩

theorem walks_vs {I ax : Addr} {vs : List Value} (hh : A.handled = none) (hne : ax ≠ I) : WalksS prog w A I [I, ax] [I] (fun a b => b = a) vs.length (fun i v => vs[i]? = some v) (fun i s => s.heap.IsListIter I ax i ∧ s.heap.IsList ax vs.toArray) := by
  have W := (Walks.list (prog := prog) (w := w) (A := A) hh I ax hne vs.toArray).toS
  simpa using W

theorem set_init_ints {R : Result → Shared → Prop} {S l : Addr} {vs : List Value} {ns : List Int} {b : Bool}
    (hh : A.handled = none) (hS : s.heap.get? S = some (newSetObj b)) (hl : s.heap.IsList l vs.toArray) (hi : IntsAre vs ns) (hb : ns.length + 1 < scanBound)
    (h : ∀ s' : Shared, (∃ h' tk, s' = { s with heap := h', toks := tk }) → s.toks ≤ s'.toks → (∀ b o, b ≠ S → s.heap.get? b = some o → s'.heap.get? b = some o) → SetAt s'.heap S b vs ns → R (.ok (.ret .none)) s') :
    wpAny (model prog w) A.in1 (Builtin.«set.__init__» ⟨[.ref S, .ref l], []⟩)
      (fun fin s' => match fin with | .done f => R (.ok f) s' | .again c' => c'.quiet = true ∧ codeAny (model prog w) A c' R s') (fun e s' => R (.error e) s') s := by
  obtain ⟨ol, hol, hcl, nl, hdl⟩ := hl
  obtain ⟨ocls, odict, odata, oslots⟩ := ol
  simp only at hcl hdl
  subst hcl; subst hdl
  have hsls := PySem.F.sub_list_set
  have hslf := PySem.F.sub_list_frozenset
  have hne : (Value.type "list" == Value.type "dict") = false := by decide
  have hl1 : s.heap.IsList l vs.toArray := ⟨_, hol, rfl, nl, rfl⟩
  have hlS : l < s.heap.objs.size := Heap.lt_size hol
  have hSs : S < s.heap.objs.size := Heap.lt_size hS
  have hSl : S ≠ l := by
    rintro rfl
    have e : Value.type "set" = .type "list" := congrArg Obj.cls (Option.some.inj (hS.symm.trans hol))
    exact absurd e (by decide)
  unfold Builtin.«set.__init__» noKeywords Builtin.Frozenset.updateFrom
  generalize hPI : pyIter = PI
  wp_walk
  subst hPI
  refine wpAny_pyIter_list hl1 ?_
  refine wpAny_bind (wpAny_runValue ?_)
  have hSf : S ∉ [s.heap.objs.size, l] := by
    simp only [List.mem_cons, List.not_mem_nil, or_false, not_or]
    exact ⟨Nat.ne_of_lt hSs, hSl⟩
  refine set_loop (walks_vs (vs := vs) (by simp [hh]) (Nat.ne_of_lt hlS)) hSf hi hb vs.length 0 _ rfl (Nat.zero_le _) ⟨⟨_, Heap.get?_push_size _ rfl, rfl, rfl⟩, hl1.push _⟩ (setAt_new b (Heap.get?_push_of_some _ hS)) fun s' hm hS' => ?_
  refine wpAny_pure ?_
  show wpAny _ _ (ret Value.none) _ _ _
  refine wpAny_pure (h s' ?_ hm.toks (fun b o hb e => hm.heap b o ?_ (Heap.get?_push_of_some _ e)) hS')
  · obtain ⟨h', g', d', tk', os'⟩ := s'
    have eg : g' = s.gens := hm.gens
    have ed : d' = s.drawn := hm.drawn
    have eo : os' = s.os := hm.os
    subst eg; subst ed; subst eo
    exact ⟨h', tk', rfl⟩
  · simp only [List.mem_cons, List.not_mem_nil, or_false, not_or]
    exact ⟨hb, Nat.ne_of_lt (Heap.lt_size e)⟩
end
end Mine
namespace Mine
open PySem PySem.W PyProof.Rows

section
variable {prog : Program} {w : World} {A : Around} {E : Value → Shared → Prop} {s : Shared}
set_option maxHeartbeats 3200000 in
theorem call_set_ints {l : Addr} {vs : List Value} {ns : List Int} {Q : Value → Shared → Prop}
    (hh : A.handled = none) (hl : s.heap.IsList l vs.toArray) (hi : IntsAre vs ns) (hb : ns.length + 1 < scanBound)
    (h : ∀ s', Kp s s' → SetAt s'.heap s.heap.objs.size (ledBy w) vs ns → Q (.ref s.heap.objs.size) s') :
    wpAny (model prog w) A (call (.type "set") [.ref l]) Q E s := by
  obtain ⟨c, tl, hmro⟩ := PySem.F.called_set.mro
  have hmade := PySem.F.called_set.made
  have hsub := PySem.F.called_set.sub
  refine wpAny_call (codeAny_of_tree ?_)
  show wpAny _ _ (callAny (.type "set") _) _ _ _
  refine wpAny_pure ⟨Code.quiet_builtin _ (by decide +kernel), codeAny_builtin PySem.F.entry_type_call ?_⟩
  rw [Around.under_plain (PySem.weight_type_call_type "set" [.ref l] []) rfl]
  have h1 := PySem.F.called_set.notType
  have h2 := PySem.F.called_set.canCreate
  have hct := PySem.F.typeCall_set_1 (.ref l)
  repeat (any_goals (first | assumption | wp_step))
  refine codeAny_mono (newSet_at (.ref l) (E := E) (Q₁ := fun obj s₁ => obj = .ref s.heap.objs.size ∧ s₁ = { s with heap := s.heap.push (newSetObj (ledBy w)) }) ⟨rfl, rfl⟩) fun r s₁ hr => ?_
  cases r with
  | error e => exact hr
  | ok fl =>
    cases fl with
    | ret obj =>
      obtain ⟨rfl, rfl⟩ := hr
      have hS : (s.heap.push (newSetObj (ledBy w))).get? s.heap.objs.size = some (newSetObj (ledBy w)) := Heap.get?_push_size _ rfl
      have hT : Shared.TypeIs { s with heap := s.heap.push (newSetObj (ledBy w)) } (.ref s.heap.objs.size) "set" := ⟨_, hS, rfl⟩
      have hli := PySem.F.called_set.init.lookup
      have hbi := PySem.F.called_set.init.bind (.ref s.heap.objs.size)
      repeat (any_goals (first | assumption | wp_step))
      refine codeAny_mono (codeAny_call_builtin (R := wants (fun r s₂ => r = .none ∧ Kp s s₂ ∧ SetAt s₂.heap s.heap.objs.size (ledBy w) vs ns) E) PySem.F.called_set.init.plain PySem.F.entry_set_init (PySem.check_set_init_1 hT ?_)) fun r₂ s₂ hr₂ => ?_
      · refine set_init_ints (b := ledBy w) (by simp [hh]) hS ?_ hi hb fun s' hs' ht hk hS' => ?_
        · obtain ⟨ol, hol, hcl, nl, hdl⟩ := hl
          exact ⟨ol, Heap.get?_push_of_some _ hol, hcl, nl, hdl⟩
        · obtain ⟨h', tk, rfl⟩ := hs'
          exact ⟨rfl, ⟨⟨h', tk, rfl⟩, ht, fun b o e => hk b o (Nat.ne_of_lt (Heap.lt_size e)) (Heap.get?_push_of_some _ e)⟩, hS'⟩
      · cases r₂ with
        | error e => exact hr₂
        | ok fl₂ =>
          cases fl₂ with
          | ret r =>
            obtain ⟨rfl, hk, hS'⟩ := hr₂
            repeat (any_goals (first | assumption | wp_step))
            exact h _ hk hS'
          | _ => exact hr₂.elim
    | _ => exact hr.elim
end
end Mine
namespace Mine
open PySem PySem.W PyProof.Rows

theorem slot_setiter_next : Slot "set_iterator" "__next__" "set_iterator.__next__" :=
  .of (owner := "set_iterator") (n := "__next__") (by rw [typeLookup_type, builtinLookup_eq_fast]; kernel_rfl) (by decide +kernel) (by decide +kernel) (by decide +kernel)
    (by first | exact .inl (by decide +kernel) | exact .inr (by decide +kernel)) (by rw [isSubtype_type]; kernel_rfl)
theorem entry_setiter_next : entryFor table "set_iterator.__next__" = some Builtin.«set_iterator.__next__» := entryFor_of_tree (by kernel_rfl)
theorem args_setiter_next (a : Value) : argsOk "set_iterator.__next__" ⟨[a], []⟩ := by
  unfold argsOk; rw [signature?_of (id := "set_iterator.__next__") (n := ['_', '_', 't', 'x', 'e', 'n', '_', '_']) (o := ['r', 'o', 't', 'a', 'r', 'e', 't', 'i', '_', 't', 'e', 's']) (by kernel_rfl) (by kernel_rfl : Manifest.owners.lookup _ = some Manifest.sig_set_iterator)]; kernel_rfl
theorem slot_setiter_iter : Slot "set_iterator" "__iter__" "set_iterator.__iter__" :=
  .of (owner := "set_iterator") (n := "__iter__") (by rw [typeLookup_type, builtinLookup_eq_fast]; kernel_rfl) (by decide +kernel) (by decide +kernel) (by decide +kernel)
    (by first | exact .inl (by decide +kernel) | exact .inr (by decide +kernel)) (by rw [isSubtype_type]; kernel_rfl)
theorem entry_setiter_iter : entryFor table "set_iterator.__iter__" = some Builtin.«dict_keyiterator.__iter__» :=
  entryFor_alias (id' := "dict_keyiterator.__iter__") (by kernel_rfl) rfl (by decide +kernel) (by kernel_rfl)
theorem args_setiter_iter (a : Value) : argsOk "set_iterator.__iter__" ⟨[a], []⟩ := by
  unfold argsOk; rw [signature?_of (id := "set_iterator.__iter__") (n := ['_', '_', 'r', 'e', 't', 'i', '_', '_']) (o := ['r', 'o', 't', 'a', 'r', 'e', 't', 'i', '_', 't', 'e', 's']) (by kernel_rfl) (by kernel_rfl : Manifest.owners.lookup _ = some Manifest.sig_set_iterator)]; kernel_rfl
theorem entry_set_iter : entryFor table "set.__iter__" = some Builtin.«frozenset.__iter__» :=
  entryFor_alias (id' := "frozenset.__iter__") (by kernel_rfl) rfl (by decide +kernel) (by kernel_rfl)

section
variable {prog : Program} {w : World} {A : Around} {E : Value → Shared → Prop} {s : Shared}

def SetIt (h : Heap) (I S : Addr) (first : Value) (i n ep : Nat) : Prop := ∃ o, h.get? I = some o ∧ o.cls = .type "set_iterator" ∧ o.data = .fields #[first, .int i 0, .ref S, .int n 0, .int ep 0]
theorem SetIt.at {h h' : Heap} {I S : Addr} {first : Value} {i n ep : Nat} (x : SetIt h I S first i n ep) (k : ∀ o, h.get? I = some o → h'.get? I = some o) : SetIt h' I S first i n ep := by
  obtain ⟨o, ho, r⟩ := x
  exact ⟨o, k o ho, r⟩
theorem SetIt.typeIs {I S : Addr} {first : Value} {i n ep : Nat} (x : SetIt s.heap I S first i n ep) : s.TypeIs (.ref I) "set_iterator" := let ⟨o, ho, hc, _⟩ := x; ⟨o, ho, hc⟩

theorem pyIter_setiter {I S : Addr} {first : Value} {i n ep : Nat} {Q : Value → Shared → Prop} (x : SetIt s.heap I S first i n ep) (h : Q (.ref I) s) : wpAny (model prog w) A (pyIter (.ref I)) Q E s := by
  refine wpAny_pyIter_slot x.typeIs slot_setiter_iter (wpAny_call_entry slot_setiter_iter x.typeIs entry_setiter_iter ?_ (args_setiter_iter _))
  show wpAny _ _ (ret (.ref I)) _ _ s
  exact wpAny_pure ⟨_, rfl, "set_iterator", _, x.typeIs, slot_setiter_next.lookup, h⟩

/-- a step of a set's iterator that gives v: what setNext gives -/
theorem setIt_item {I S : Addr} {slot slot' i n ep : Nat} {v : Value} {es : Array (Int × Value)} {Q : Option Value → Shared → Prop} (hit : SetIt s.heap I S (.int slot 0) i n ep)
    (hes : ∀ (A' : Around) (Q : Array (Int × Value) → Shared → Prop) (E : Value → Shared → Prop), Q es s → wpAny (model prog w) A' (setEntries S) Q E s) (hn : es.size = n)
    (hnx : ∀ (A' : Around) (Q : Option (Value × Nat) → Shared → Prop) (E : Value → Shared → Prop), Q (some (v, slot')) s → wpAny (model prog w) A' (setNext S slot i ep) Q E s)
    (h : ∀ h', Heap.SameBut I s.heap h' → SetIt h' I S (.int slot' 0) (i + 1) n ep → Q (some v) { s with heap := h' }) :
    wpAny (model prog w) A (pyNext (.ref I)) Q E s := by
  obtain ⟨o, ho, hc, hd⟩ := id hit
  unfold pyNext
  refine wpAny_bind (wpAny_attempt (wpAny_callSpecial?_slot (name := Str.ofString "__next__") hit.typeIs slot_setiter_next
    (wpAny_call_entry slot_setiter_next hit.typeIs entry_setiter_next ?_ (args_setiter_next _))))
  unfold Builtin.«set_iterator.__next__»
  refine wpAny_bind (m := slotArgs "__next__" 0 _) (wpAny_pure ?_)
  refine wpAny_bind (wpAny_fieldsOf ho hd ?_)
  show wpAny _ _ (setEntries S >>= _) _ _ s
  refine wpAny_bind (hes _ _ _ ?_)
  rw [if_neg (by rw [hn]; simp)]
  show wpAny _ _ (setNext S (Int.toNat (slot : Nat)) (Int.toNat (i : Nat)) (Int.toNat (ep : Nat)) >>= _) _ _ s
  rw [Int.toNat_natCast, Int.toNat_natCast, Int.toNat_natCast]
  refine wpAny_bind (hnx _ _ _ ?_)
  show wpAny _ _ (setField (.ref I) 0 (rawInt slot') >>= _) _ _ s
  refine wpAny_bind (wpAny_setField ho hd (by simp) ?_)
  have ho1 := Heap.get?_update_self (Obj.mapFields (·.setIfInBounds 0 (rawInt slot'))) ho (Obj.isFreed_of_fields (Obj.data_mapFields hd _))
  have hd1 := Obj.data_mapFields hd (·.setIfInBounds 0 (rawInt slot'))
  refine wpAny_bind (wpAny_setField ho1 hd1 (by simp) ?_)
  have ho2 := Heap.get?_update_self (Obj.mapFields (·.setIfInBounds 1 (rawInt ((i : Int) + 1)))) ho1 (Obj.isFreed_of_fields (Obj.data_mapFields hd1 _))
  have hd2 := Obj.data_mapFields hd1 (·.setIfInBounds 1 (rawInt ((i : Int) + 1)))
  refine wpAny_pure ⟨_, rfl, wpAny_pure (h _ ((Heap.SameBut.update ..).trans (Heap.SameBut.update ..)) ⟨_, ho2, ?_, ?_⟩)⟩
  · rw [Obj.cls_mapFields, Obj.cls_mapFields]; exact hc
  · rw [hd2]; simp [rawInt]

theorem raise_stop {I : Addr} {h₁ : Heap} {α : Type} {R : α → Shared → Prop} {Q : Value → Shared → Prop} (hh : A.handled = none) (hx : Heap.ExtBut I s.heap h₁)
    (h : ∀ e h', Heap.ExtBut I s.heap h' → Shared.TypeIs { s with heap := h' } e "StopIteration" → Q e { s with heap := h' }) :
    wpAny (model prog w) A (do raiseNew (← newExc (.type "StopIteration") []) : Sem α) R Q { s with heap := h₁ } := by
  refine wpAny_bind ?_
  simp only [newExc, newTuple]
  refine wpAny_bind (wpAny_newObj_type ?_ (by size_fits))
  refine wpAny_bind (m := firstArgMember _ _) (wpAny_of_eq (a := Value.none) (by first | rfl | (simp only [firstArgMember]; rfl)) ?_)
  refine wpAny_newObj_type ?_ (by size_fits)
  simp only [raiseNew]
  refine wpAny_bind (wpAny_handled ?_)
  rw [hh]
  refine wpAny_bind (wpAny_pure (wpAny_throw ?_))
  exact h _ _ ((hx.push _).push _) ⟨_, Heap.get?_push_size _ rfl, rfl⟩

theorem setIt_end {I S : Addr} {slot i n ep : Nat} {es : Array (Int × Value)} {Q : Option Value → Shared → Prop} (hh : A.handled = none) (hit : SetIt s.heap I S (.int slot 0) i n ep)
    (hes : ∀ (A' : Around) (Q : Array (Int × Value) → Shared → Prop) (E : Value → Shared → Prop), Q es s → wpAny (model prog w) A' (setEntries S) Q E s) (hn : es.size = n)
    (hnx : ∀ (A' : Around) (Q : Option (Value × Nat) → Shared → Prop) (E : Value → Shared → Prop), Q none s → wpAny (model prog w) A' (setNext S slot i ep) Q E s)
    (h : ∀ h', Heap.ExtBut I s.heap h' → Q none { s with heap := h' }) :
    wpAny (model prog w) A (pyNext (.ref I)) Q E s := by
  obtain ⟨o, ho, hc, hd⟩ := id hit
  unfold pyNext
  refine wpAny_bind (wpAny_attempt (wpAny_callSpecial?_slot (name := Str.ofString "__next__") hit.typeIs slot_setiter_next
    (wpAny_call_entry slot_setiter_next hit.typeIs entry_setiter_next ?_ (args_setiter_next _))))
  unfold Builtin.«set_iterator.__next__»
  refine wpAny_bind (m := slotArgs "__next__" 0 _) (wpAny_pure ?_)
  refine wpAny_bind (wpAny_fieldsOf ho hd ?_)
  show wpAny _ _ (setEntries S >>= _) _ _ s
  refine wpAny_bind (hes _ _ _ ?_)
  rw [if_neg (by rw [hn]; simp)]
  show wpAny _ _ (setNext S (Int.toNat (slot : Nat)) (Int.toNat (i : Nat)) (Int.toNat (ep : Nat)) >>= _) _ _ s
  rw [Int.toNat_natCast, Int.toNat_natCast, Int.toNat_natCast]
  refine wpAny_bind (hnx _ _ _ ?_)
  show wpAny _ _ (setField (.ref I) 2 .none >>= _) _ _ s
  refine wpAny_bind (wpAny_setField ho hd (by simp) ?_)
  refine raise_stop (I := I) hh (Heap.SameBut.update ..).extBut fun e h' hx hT => ?_
  refine wpAny_bind (wpAny_isInstance (T := "StopIteration") (b := true) hT isSubtype_stop ?_)
  exact wpAny_pure (h h' hx)
end
end Mine
namespace Mine
open PySem PySem.W PyProof.Rows

theorem erase_perm {α : Type} {l : List α} {i : Nat} (hi : i < l.length) : (l[i] :: l.eraseIdx i).Perm l := by
  rw [List.eraseIdx_eq_take_drop_succ]
  have e : l = l.take i ++ l[i] :: l.drop (i + 1) := by rw [List.getElem_cons_drop, List.take_append_drop]
  conv => rhs; rw [e]
  exact List.perm_middle.symm
theorem pickOrder_go {α : Type} (next : Nat → Nat) : ∀ (fuel k : Nat) (left : List α) (out : Array α), left.length = fuel → (pickOrder.go next fuel k left out).toList.Perm (out.toList ++ left)
  | 0, k, left, out, h => by
    have e : left = [] := List.length_eq_zero_iff.mp h
    subst e
    simp [pickOrder.go]
  | fuel + 1, k, left, out, h => by
    unfold pickOrder.go
    have hp : 0 < left.length := by omega
    have hi : next k % left.length < left.length := Nat.mod_lt _ hp
    rw [List.getElem?_eq_getElem hi]
    refine (pickOrder_go next fuel (k + 1) _ _ (by rw [List.length_eraseIdx_of_lt hi]; omega)).trans ?_
    rw [Array.toList_push, List.append_assoc]
    exact (erase_perm hi).append_left _
theorem pickOrder_perm {α : Type} (next : Nat → Nat) (xs : Array α) : (pickOrder next xs).toList.Perm xs.toList := by
  have := pickOrder_go next xs.size 0 xs.toList #[] (by simp)
  simpa [pickOrder] using this

/-- a step that changes nothing that stood, but may draw -/
structure KpD (s s' : Shared) : Prop where
  same : ∃ h tk d, s' = { s with heap := h, toks := tk, drawn := d }
  tok : s.toks ≤ s'.toks
  sub : Sub s.heap s'.heap
theorem Kp.d {s s' : Shared} (k : Kp s s') : KpD s s' := by
  obtain ⟨⟨h, t, rfl⟩, a2, a3⟩ := k
  exact ⟨⟨h, t, s.drawn, rfl⟩, a2, a3⟩
theorem KpD.refl {s : Shared} : KpD s s := Kp.refl.d
theorem KpD.trans {s s' s'' : Shared} (a : KpD s s') (b : KpD s' s'') : KpD s s'' := by
  obtain ⟨⟨h, t, d, rfl⟩, a2, a3⟩ := a
  obtain ⟨⟨h', t', d', rfl⟩, b2, b3⟩ := b
  exact ⟨⟨h', t', d', rfl⟩, Nat.le_trans a2 b2, a3.trans b3⟩
/-- the same step, seen from the state that has drawn -/
theorem KpD.draws {s s' : Shared} (k : KpD s s') : ∃ d, Kp { s with drawn := d } s' := by
  obtain ⟨⟨h, t, d, rfl⟩, a2, a3⟩ := k
  exact ⟨d, ⟨h, t, rfl⟩, a2, a3⟩

section
variable {M : Model} {prog : Program} {w : World} {A : Around} {E : Value → Shared → Prop} {s : Shared}

theorem choose_ {src : Source} {n : Nat} {Q : Nat → Shared → Prop} (hn : n ≠ 0) (h : ∀ k, k < n → Q k { s with drawn := s.drawn.bump src }) : wpAny M A (choose src n) Q E s :=
  fun Γ p hΓ => ⟨hn, h _ (Nat.mod_lt _ (Nat.pos_of_ne_zero hn))⟩

theorem drawOrder_ {α : Type} : ∀ (n : Nat) (xs : List α) (s : Shared) (Q : List α → Shared → Prop), xs.length = n → (∀ d ys, ys.Perm xs → Q ys { s with drawn := d }) → wpAny M A (drawOrder n xs) Q E s
  | 0, xs, s, Q, hl, h => by
    have e : xs = [] := List.length_eq_zero_iff.mp hl
    subst e
    exact wpAny_pure (h s.drawn [] (List.Perm.refl _))
  | n + 1, [], s, Q, hl, h => by simp at hl
  | n + 1, x :: r, s, Q, hl, h => by
    show wpAny M A (choose .order (x :: r).length >>= fun i => match (x :: r)[i]? with
      | some y => drawOrder n ((x :: r).eraseIdx i) >>= fun z => pure (y :: z)
      | none => unsupported "internal:drawOrder") Q E s
    refine wpAny_bind (choose_ (by simp) fun i hi => ?_)
    rw [List.getElem?_eq_getElem hi]
    refine wpAny_bind (drawOrder_ n _ _ _ (by rw [List.length_eraseIdx_of_lt hi]; simp at hl ⊢; omega) fun d ys hp => wpAny_pure ?_)
    exact h d _ ((List.Perm.cons _ hp).trans (erase_perm hi))
end

section
variable {prog : Program} {w : World} {A : Around} {E : Value → Shared → Prop} {s : Shared}

theorem entries_of {S : Addr} {o : Obj} {es : Array (Int × Value)} {ep : Nat} {t : SetTable} (ho : s.heap.get? S = some o) (hd : o.data = .set es ep t) (hf : t.fits es.size = true) (A' : Around) (Q : Array (Int × Value) → Shared → Prop) (E' : Value → Shared → Prop) (h : Q es s) :
    wpAny (model prog w) A' (setEntries S) Q E' s := wpAny_setEntries_of ho hd hf h

theorem walks_setInt {I S : Addr} {o : Obj} {es : Array (Int × Value)} {ep : Nat} {t : SetTable} {order : List Value} (slotAt : Nat → Nat) (hh : A.handled = none) (hne : S ≠ I) (hd : o.data = .set es ep t) (hf : t.fits es.size = true) (hlen : order.length = es.size)
    (item : ∀ i (s : Shared) (v : Value) (A' : Around) (Q : Option (Value × Nat) → Shared → Prop) (E' : Value → Shared → Prop), order[i]? = some v → s.heap.get? S = some o → Q (some (v, slotAt (i + 1))) s → wpAny (model prog w) A' (setNext S (slotAt i) i ep) Q E' s)
    (done : ∀ (s : Shared) (A' : Around) (Q : Option (Value × Nat) → Shared → Prop) (E' : Value → Shared → Prop), s.heap.get? S = some o → Q none s → wpAny (model prog w) A' (setNext S (slotAt es.size) es.size ep) Q E' s) :
    WalksS prog w A I [I, S] [I] (fun a b => b = a) es.size (fun i v => order[i]? = some v) (fun i s => SetIt s.heap I S (.int (slotAt i) 0) i es.size ep ∧ s.heap.get? S = some o) where
  sub := by intro b hb; rw [List.mem_singleton.mp hb]; exact .head _
  grefl := fun _ => rfl
  gtrans := fun _ _ _ h1 h2 => h2.trans h1
  frame := by
    rintro i s h' tk ⟨x, y⟩ _ hk
    exact ⟨x.at fun o e => hk _ (.head _) o e, hk _ (.tail _ (.head _)) _ y⟩
  item := by
    rintro i s Q E hi ⟨x, y⟩ h
    have hv : order[i]? = some order[i] := List.getElem?_eq_getElem (by omega)
    refine setIt_item x (entries_of y hd hf) rfl (fun A' Q' E' hq => item i s _ A' Q' E' hv y hq) fun h' hsb hx => ?_
    exact h _ _ hv ⟨hx, hsb.extBut _ _ hne y⟩ ⟨fun b o hb e => hsb.extBut b o (fun q => hb (q ▸ .head _)) e, rfl, rfl, rfl, Nat.le_refl _⟩
  done := by
    rintro s Q E ⟨x, y⟩ h
    refine setIt_end hh x (entries_of y hd hf) rfl (fun A' Q' E' hq => done s A' Q' E' y hq) fun h' hx => ?_
    exact h _ ⟨fun b o hb e => hx b o (fun q => hb (q ▸ .head _)) e, rfl, rfl, rfl, Nat.le_refl _⟩
  self := by
    rintro i s Q E ⟨x, _⟩ h
    exact pyIter_setiter x h

/-- by the text's own order -/
theorem next_text {S : Addr} {o : Obj} {es : Array (Int × Value)} {ep : Nat} {t : SetTable} {slot i : Nat} {Q : Option (Value × Nat) → Shared → Prop} (ho : s.heap.get? S = some o) (hd : o.data = .set es ep t) (hf : t.fits es.size = true)
    (ht : w.params.followText "set-order" = true) (h : Q (((pickOrder (w.params.setOrder S ep) es)[i]?).map fun e => (e.2, slot)) s) : wpAny (model prog w) A (setNext S slot i ep) Q E s := by
  unfold setNext
  refine wpAny_bind (wpAny_setState_of ho hd hf ?_)
  dsimp only
  unfold setsByText
  refine wpAny_bind (wpAny_bind (wpAny_askSetting (wpAny_pure ?_)))
  show wpAny _ _ (if w.params.followText "set-order" = true then _ else _) _ _ _
  rw [if_pos ht]
  simp only [bne_self_eq_false, Bool.false_eq_true, if_false]
  unfold setWalk
  refine wpAny_bind (wpAny_bind (wpAny_setState_of ho hd hf ?_))
  dsimp only
  unfold setsByText
  refine wpAny_bind (wpAny_bind (wpAny_askSetting (wpAny_pure ?_)))
  show wpAny _ _ (if w.params.followText "set-order" = true then _ else _) _ _ _
  rw [if_pos ht]
  refine wpAny_bind (wpAny_askSetting (wpAny_pure ?_))
  exact wpAny_pure h

/-- by the places -/
theorem next_plain {S : Addr} {o : Obj} {es : Array (Int × Value)} {ep ep' : Nat} {t : SetTable} {slot i : Nat} {Q : Option (Value × Nat) → Shared → Prop} (ho : s.heap.get? S = some o) (hd : o.data = .set es ep t) (hf : t.fits es.size = true)
    (ht : w.params.followText "set-order" = false) (hl : t.led = true) (hp : (!t.plain && decide (es.size > 1)) = false)
    (h : Q (match es[SetTable.below t.place slot]?, t.place[SetTable.below t.place slot]? with | some (_, x), some j => some (x, j + 1) | _, _ => none) s) : wpAny (model prog w) A (setNext S slot i ep') Q E s := by
  unfold setNext
  refine wpAny_bind (wpAny_setState_of ho hd hf ?_)
  dsimp only
  unfold setsByText
  refine wpAny_bind (wpAny_bind (wpAny_askSetting (wpAny_pure ?_)))
  show wpAny _ _ (if w.params.followText "set-order" = true then _ else _) _ _ _
  rw [if_neg (by rw [ht]; decide)]
  show wpAny _ _ (if (!t.plain && decide (es.size > 1)) = true then _ else _) _ _ _
  rw [if_neg (by rw [hp]; decide)]
  refine wpAny_bind (m := if (!t.led && !es.isEmpty) = true then unsupported "set:maker-not-led" else pure ()) ?_
  rw [if_neg (by rw [hl]; simp)]
  exact wpAny_pure (wpAny_pure h)
end
end Mine
namespace Mine
open PySem PySem.W PyProof.Rows

section
variable {prog : Program} {w : World} {A : Around} {E : Value → Shared → Prop} {s : Shared}

theorem setItD_item {I S T : Addr} {i n ep p : Nat} {ps : List Nat} {v : Value} {k : Int} {o oT : Obj} {nT : Nat} {es : Array (Int × Value)} {t : SetTable} {Q : Option Value → Shared → Prop} (hit : SetIt s.heap I S (.ref T) i n ep)
    (hoS : s.heap.get? S = some o) (hd : o.data = .set es ep t) (hf : t.fits es.size = true) (hn : es.size = n) (hT : s.heap.get? T = some oT) (hdT : oT.data = .seq (ps.map fun (i : Nat) => rawInt i).toArray nT) (hp : ps[i]? = some p) (he : es[p]? = some (k, v))
    (h : ∀ h', Heap.SameBut I s.heap h' → SetIt h' I S (.ref T) (i + 1) n ep → Q (some v) { s with heap := h' }) :
    wpAny (model prog w) A (pyNext (.ref I)) Q E s := by
  obtain ⟨o', ho, hc, hd'⟩ := id hit
  unfold pyNext
  refine wpAny_bind (wpAny_attempt (wpAny_callSpecial?_slot (name := Str.ofString "__next__") hit.typeIs slot_setiter_next
    (wpAny_call_entry slot_setiter_next hit.typeIs entry_setiter_next ?_ (args_setiter_next _))))
  unfold Builtin.«set_iterator.__next__»
  refine wpAny_bind (m := slotArgs "__next__" 0 _) (wpAny_pure ?_)
  refine wpAny_bind (wpAny_fieldsOf ho hd' ?_)
  show wpAny _ _ (setEntries S >>= _) _ _ s
  refine wpAny_bind (wpAny_setEntries_of hoS hd hf ?_)
  rw [if_neg (by rw [hn]; simp)]
  show wpAny _ _ (seqItems? (.ref T) >>= _) _ _ s
  refine wpAny_bind ?_
  show wpAny _ _ (load T >>= _) _ _ s
  refine wpAny_bind (wpAny_load hT ?_)
  rw [hdT]
  refine wpAny_pure ?_
  dsimp only
  have e1 : (ps.map fun (i : Nat) => rawInt i).toArray[Int.toNat (i : Nat)]? = some (rawInt p) := by
    rw [Int.toNat_natCast]
    simp [hp]
  rw [e1]
  show wpAny _ _ (setNextDrawn S (Int.toNat (p : Nat)) (Int.toNat (ep : Nat)) >>= _) _ _ s
  rw [Int.toNat_natCast, Int.toNat_natCast]
  refine wpAny_bind ?_
  unfold setNextDrawn
  refine wpAny_bind (wpAny_setState_of hoS hd hf ?_)
  dsimp only
  simp only [bne_self_eq_false, Bool.false_eq_true, if_false]
  rw [he]
  refine wpAny_pure ?_
  refine wpAny_bind (wpAny_setField ho hd' (by simp) ?_)
  have ho1 := Heap.get?_update_self (Obj.mapFields (·.setIfInBounds 1 (rawInt ((i : Int) + 1)))) ho (Obj.isFreed_of_fields (Obj.data_mapFields hd' _))
  have hd1 := Obj.data_mapFields hd' (·.setIfInBounds 1 (rawInt ((i : Int) + 1)))
  refine wpAny_pure ⟨_, rfl, wpAny_pure (h _ (Heap.SameBut.update ..) ⟨_, ho1, ?_, ?_⟩)⟩
  · rw [Obj.cls_mapFields]; exact hc
  · rw [hd1]; simp [rawInt]

theorem setItD_end {I S T : Addr} {i n ep : Nat} {ps : List Nat} {o oT : Obj} {nT : Nat} {es : Array (Int × Value)} {t : SetTable} {Q : Option Value → Shared → Prop} (hh : A.handled = none) (hit : SetIt s.heap I S (.ref T) i n ep)
    (hoS : s.heap.get? S = some o) (hd : o.data = .set es ep t) (hf : t.fits es.size = true) (hn : es.size = n) (hT : s.heap.get? T = some oT) (hdT : oT.data = .seq (ps.map fun (i : Nat) => rawInt i).toArray nT) (hp : ps[i]? = none)
    (h : ∀ h', Heap.ExtBut I s.heap h' → Q none { s with heap := h' }) :
    wpAny (model prog w) A (pyNext (.ref I)) Q E s := by
  obtain ⟨o', ho, hc, hd'⟩ := id hit
  unfold pyNext
  refine wpAny_bind (wpAny_attempt (wpAny_callSpecial?_slot (name := Str.ofString "__next__") hit.typeIs slot_setiter_next
    (wpAny_call_entry slot_setiter_next hit.typeIs entry_setiter_next ?_ (args_setiter_next _))))
  unfold Builtin.«set_iterator.__next__»
  refine wpAny_bind (m := slotArgs "__next__" 0 _) (wpAny_pure ?_)
  refine wpAny_bind (wpAny_fieldsOf ho hd' ?_)
  show wpAny _ _ (setEntries S >>= _) _ _ s
  refine wpAny_bind (wpAny_setEntries_of hoS hd hf ?_)
  rw [if_neg (by rw [hn]; simp)]
  show wpAny _ _ (seqItems? (.ref T) >>= _) _ _ s
  refine wpAny_bind ?_
  show wpAny _ _ (load T >>= _) _ _ s
  refine wpAny_bind (wpAny_load hT ?_)
  rw [hdT]
  refine wpAny_pure ?_
  dsimp only
  have e1 : (ps.map fun (i : Nat) => rawInt i).toArray[Int.toNat (i : Nat)]? = none := by
    rw [Int.toNat_natCast]
    simpa using hp
  rw [e1]
  show wpAny _ _ (setField (.ref I) 0 (rawInt 0) >>= _) _ _ s
  refine wpAny_bind (wpAny_setField ho hd' (by simp) ?_)
  have ho1 := Heap.get?_update_self (Obj.mapFields (·.setIfInBounds 0 (rawInt 0))) ho (Obj.isFreed_of_fields (Obj.data_mapFields hd' _))
  have hd1 := Obj.data_mapFields hd' (·.setIfInBounds 0 (rawInt 0))
  refine wpAny_bind (wpAny_setField ho1 hd1 (by simp) ?_)
  refine raise_stop (s := s) (I := I) hh ((Heap.SameBut.update ..).trans (Heap.SameBut.update ..)).extBut fun e h' hx hT => ?_
  refine wpAny_bind (wpAny_isInstance (T := "StopIteration") (b := true) hT isSubtype_stop ?_)
  exact wpAny_pure (h h' hx)

theorem walks_setD {I S T : Addr} {o oT : Obj} {nT : Nat} {ps : List Nat} {es : Array (Int × Value)} {ep : Nat} {t : SetTable} {order : List Value} (hh : A.handled = none) (hne : S ≠ I) (hTI : T ≠ I) (hd : o.data = .set es ep t) (hf : t.fits es.size = true)
    (hdT : oT.data = .seq (ps.map fun (i : Nat) => rawInt i).toArray nT) (hlen : ps.length = es.size) (ho : ∀ i : Nat, i < es.size → ∃ p k v, ps[i]? = some p ∧ es[p]? = some (k, v) ∧ order[i]? = some v) :
    WalksS prog w A I [I, S, T] [I] (fun a b => b = a) es.size (fun i v => order[i]? = some v) (fun i s => SetIt s.heap I S (.ref T) i es.size ep ∧ s.heap.get? S = some o ∧ s.heap.get? T = some oT) where
  sub := by intro b hb; rw [List.mem_singleton.mp hb]; exact .head _
  grefl := fun _ => rfl
  gtrans := fun _ _ _ h1 h2 => h2.trans h1
  frame := by
    rintro i s h' tk ⟨x, y, z⟩ _ hk
    exact ⟨x.at fun o e => hk _ (.head _) o e, hk _ (.tail _ (.head _)) _ y, hk _ (.tail _ (.tail _ (.head _))) _ z⟩
  item := by
    rintro i s Q E hi ⟨x, y, z⟩ h
    obtain ⟨p, k, v, h1, h2, h3⟩ := ho i hi
    refine setItD_item x y hd hf rfl z hdT h1 h2 fun h' hsb hx => ?_
    exact h _ _ h3 ⟨hx, hsb.extBut _ _ hne y, hsb.extBut _ _ hTI z⟩ ⟨fun b o hb e => hsb.extBut b o (fun q => hb (q ▸ .head _)) e, rfl, rfl, rfl, Nat.le_refl _⟩
  done := by
    rintro s Q E ⟨x, y, z⟩ h
    refine setItD_end hh x y hd hf rfl z hdT (List.getElem?_eq_none (by omega)) fun h' hx => ?_
    exact h _ ⟨fun b o hb e => hx b o (fun q => hb (q ▸ .head _)) e, rfl, rfl, rfl, Nat.le_refl _⟩
  self := by
    rintro i s Q E ⟨x, _⟩ h
    exact pyIter_setiter x h

/-- an iterator that gives a set's ints, each once -/
def SetWalk (prog : Program) (w : World) (I S : Addr) (h₀ : Heap) (vals : List Value) (s : Shared) : Prop :=
  ∃ (fp wr : List Addr) (G : Array GenState → Array GenState → Prop) (St : Nat → Shared → Prop) (order : List Value), (∀ A : Around, A.handled = none → WalksS prog w A I fp wr G vals.length (fun i v => order[i]? = some v) St) ∧ St 0 s ∧ (∀ b ∈ fp, b < s.heap.objs.size) ∧ I ∈ fp ∧ (∀ i s', St i s' → s'.TypeIs (.ref I) "set_iterator") ∧ order.Perm vals ∧ (∀ a b, G a b → b = a) ∧ (∀ b ∈ wr, b = I) ∧ (∀ b ∈ fp, b = S ∨ h₀.get? b = none)

def slotPl (t : SetTable) : Nat → Nat
  | 0 => 0
  | i + 1 => t.place.getD i 0 + 1
theorem asc_step {t : SetTable} {n : Nat} (ha : Asc t.place) (hs : t.place.size = n) : ∀ i, i ≤ n → SetTable.below t.place (slotPl t i) = i
  | 0, _ => by
    show SetTable.below t.place 0 = 0
    obtain ⟨h1, h2, h3⟩ := below_spec ha 0
    rcases Nat.eq_zero_or_pos (SetTable.below t.place 0) with q | q
    · exact q
    · exact absurd (h2 0 q) (Nat.not_lt_zero _)
  | i + 1, hi => by
    obtain ⟨h1, h2, h3⟩ := below_spec ha (t.place.getD i 0 + 1)
    show SetTable.below t.place (t.place.getD i 0 + 1) = i + 1
    rcases Nat.lt_trichotomy (SetTable.below t.place (t.place.getD i 0 + 1)) (i + 1) with q | q | q
    · have := h3 i (by omega) (by omega)
      omega
    · exact q
    · have h4 := h2 (i + 1) q
      have h5 := ha.lt (i := i) (j := i + 1) (by omega) (by omega)
      omega
end
end Mine
namespace Mine
open PySem PySem.W PyProof.Rows

section
variable {prog : Program} {w : World} {A : Around} {E : Value → Shared → Prop} {s : Shared}

/-- the values of a set of ints: each int of ks just once, each value one of vs -/
def SetVals (vs : List Value) (ks : List Int) (vals : List Value) : Prop :=
  ∃ ns, IntsAre vals ns ∧ ns.Nodup ∧ (∀ k, k ∈ ns ↔ k ∈ ks) ∧ (∀ v ∈ vals, v ∈ vs) ∧ vals.length ≤ ks.length

theorem ints_of {vals : List Value} (h : ∀ v ∈ vals, ∃ i u, v = .int i u) : IntsAre vals (vals.map valInt) := by
  induction vals with
  | nil => exact .nil
  | cons v r ih =>
    obtain ⟨i, u, rfl⟩ := h v (.head _)
    exact .cons i u (ih fun v hv => h v (.tail _ hv))
theorem SetData.vals {b : Bool} {vs : List Value} {ks : List Int} {es : Array (Int × Value)} {t : SetTable} (D : SetData b vs ks es t) : SetVals vs ks (es.toList.map (·.2)) := by
  refine ⟨(es.toList.map (·.2)).map valInt, ints_of fun v hv => ?_, ?_, fun k => ?_, fun v hv => ?_, ?_⟩
  · obtain ⟨e, he, rfl⟩ := List.mem_map.mp hv
    obtain ⟨⟨i, u, h, _⟩, _⟩ := D.el e he
    exact ⟨i, u, h⟩
  · rw [List.map_map]; exact D.nodup
  · rw [List.map_map]; exact D.mem k
  · obtain ⟨e, he, rfl⟩ := List.mem_map.mp hv
    exact (D.el e he).2
  · rw [List.length_map, Array.length_toList]; exact D.size

theorem fits_place {t : SetTable} {n : Nat} (h : t.fits n = true) : t.place.size = n := by
  unfold SetTable.fits at h
  simp at h
  exact h.1

theorem pyIter_set {S : Addr} {vs : List Value} {ks : List Int} {Q : Value → Shared → Prop} (hS : SetAt s.heap S (ledBy w) vs ks) (hz : ks.length ≤ sizeLine)
    (h : ∀ I s' vals, KpD s s' → s.heap.get? I = none → SetWalk prog w I S s.heap vals s' → SetVals vs ks vals → Q (.ref I) s') : wpAny (model prog w) A (pyIter (.ref S)) Q E s := by
  obtain ⟨o, es, ep, t, ho, hex, hd, D⟩ := hS
  have hT : s.TypeIs (.ref S) "set" := ⟨o, ho, hex.1⟩
  have hf := D.fits
  have hSlt : S < s.heap.objs.size := Heap.lt_size ho
  refine wpAny_pyIter_slot hT PySem.F.slot_set_iter (wpAny_call_entry PySem.F.slot_set_iter hT entry_set_iter ?_ (PySem.F.args_set_iter_1 _))
  unfold Builtin.«frozenset.__iter__»
  refine wpAny_bind (m := Builtin.Frozenset.slot0 "__iter__" _) (wpAny_pure ?_)
  unfold Builtin.Frozenset.sizeOf
  refine wpAny_bind (wpAny_bind (wpAny_setEntries_of ho hd hf (wpAny_pure ?_)))
  unfold setDrawn
  refine wpAny_bind (wpAny_bind (wpAny_setState_of ho hd hf ?_))
  dsimp only
  unfold setsByText
  refine wpAny_bind (wpAny_bind (wpAny_askSetting (wpAny_pure ?_)))
  show wpAny _ _ (pure (!w.params.followText "set-order" && (!t.plain && decide (es.size > 1)))) _ _ _
  refine wpAny_pure ?_
  have hlen : (es.toList.map (·.2)).length = es.size := by rw [List.length_map, Array.length_toList]
  have intMode : ∀ (slotAt : Nat → Nat) (order : List Value), slotAt 0 = 0 → order.Perm (es.toList.map (·.2)) →
      (∀ i (s : Shared) (v : Value) (A' : Around) (Q : Option (Value × Nat) → Shared → Prop) (E' : Value → Shared → Prop), order[i]? = some v → s.heap.get? S = some o → Q (some (v, slotAt (i + 1))) s → wpAny (model prog w) A' (setNext S (slotAt i) i ep) Q E' s) →
      (∀ (s : Shared) (A' : Around) (Q : Option (Value × Nat) → Shared → Prop) (E' : Value → Shared → Prop), s.heap.get? S = some o → Q none s → wpAny (model prog w) A' (setNext S (slotAt es.size) es.size ep) Q E' s) →
      wpAny (model prog w) A.in1 (do ret (← newFields "set_iterator" [rawInt 0, rawInt 0, .ref S, rawInt (es.size : Nat), rawInt ep])) (fun fin s' => ∃ v, fin = .done (.ret v) ∧ ∃ T' r, s'.TypeIs v T' ∧ typeLookup (.type T') "__next__" = pure (some r) ∧ Q v s') E s := by
    intro slotAt order h0 hp item done
    have hol : order.length = es.size := hp.length_eq.trans hlen
    refine wpAny_bind (wpAny_newObj_type (wpAny_pure ⟨_, rfl, "set_iterator", _, ⟨_, Heap.get?_push_size _ rfl, rfl⟩, slot_setiter_next.lookup, ?_⟩))
    refine h _ _ _ (Kp.d (Kp.heap (s := s) (fun b o e => Heap.get?_push_of_some _ e) (Nat.le_refl _))) (Heap.get?_none_of_le (Nat.le_refl _)) ?_ D.vals
    refine ⟨_, _, _, _, order, fun A' hh' => hlen ▸ walks_setInt (I := s.heap.objs.size) (S := S) (ep := ep) slotAt hh' (Nat.ne_of_lt hSlt) hd hf hol item done, ⟨⟨_, Heap.get?_push_size _ rfl, rfl, ?_⟩, Heap.get?_push_of_some _ ho⟩, ?_, .head _, fun i s' x => x.1.typeIs, hp, fun _ _ e => e, fun b hb => List.mem_singleton.mp hb, fun b hb => ?_⟩
    · intro b hb
      show b < (s.heap.push _).objs.size
      rw [Heap.size_push]
      rcases List.mem_cons.mp hb with q | hb
      · rw [q]; exact Nat.lt_succ_self _
      · rw [List.mem_singleton.mp hb]; exact Nat.lt_succ_of_lt hSlt
    · rcases List.mem_cons.mp hb with q | hb
      · rw [q]; exact .inr (Heap.get?_none_of_le (Nat.le_refl _))
      · exact .inl (List.mem_singleton.mp hb)
    · rw [h0, hlen]; rfl
  cases ht : w.params.followText "set-order" with
  | true =>
    rw [show (!true && (!t.plain && decide (es.size > 1))) = false from rfl]
    simp only [Bool.false_eq_true, if_false]
    refine wpAny_bind (wpAny_pure ?_)
    unfold setEpoch
    refine wpAny_bind (wpAny_bind (wpAny_setState_of ho hd hf (wpAny_pure ?_)))
    have hpp : ((pickOrder (w.params.setOrder S ep) es).toList.map (·.2)).Perm (es.toList.map (·.2)) := (pickOrder_perm _ es).map _
    refine intMode (fun _ => 0) _ rfl hpp ?_ ?_
    · intro i s₁ v A' Q' E' hv ho₁ hq
      refine next_text ho₁ hd hf ht ?_
      rw [List.getElem?_map] at hv
      rw [← Array.getElem?_toList]
      cases e : (pickOrder (w.params.setOrder S ep) es).toList[i]? with
      | none => rw [e] at hv; cases hv
      | some x => rw [e] at hv; simp at hv; subst hv; exact hq
    · intro s₁ A' Q' E' ho₁ hq
      refine next_text ho₁ hd hf ht ?_
      rw [← Array.getElem?_toList, List.getElem?_eq_none (by have := hpp.length_eq; simp only [List.length_map, Array.length_toList] at this; rw [Array.length_toList]; omega)]
      exact hq
  | false =>
    have hled : t.led = true := by rw [D.tab.led]; unfold ledBy; rw [ht]; rfl
    cases hp : (!t.plain && decide (es.size > 1)) with
    | false =>
      simp only [Bool.not_false, Bool.true_and, Bool.false_eq_true, if_false]
      refine wpAny_bind (wpAny_pure ?_)
      unfold setEpoch
      refine wpAny_bind (wpAny_bind (wpAny_setState_of ho hd hf (wpAny_pure ?_)))
      have hpl := fits_place hf
      refine intMode (slotPl t) _ rfl (List.Perm.refl _) ?_ ?_
      · intro i s₁ v A' Q' E' hv ho₁ hq
        refine next_plain ho₁ hd hf ht hled hp ?_
        have hi : i < es.size := by rw [← hlen]; exact (List.getElem?_eq_some_iff.mp hv).1
        rw [asc_step D.tab.asc hpl i (by omega)]
        rw [List.getElem?_map, Array.getElem?_toList, Array.getElem?_eq_getElem hi] at hv
        rw [Array.getElem?_eq_getElem hi, Array.getElem?_eq_getElem (by omega)]
        simp only [Option.map_some, Option.some.injEq] at hv
        subst hv
        have : t.place.getD i 0 = t.place[i] := by simp [Array.getD, hpl, hi]
        rw [show slotPl t (i + 1) = t.place[i] + 1 from congrArg (· + 1) this] at hq
        exact hq
      · intro s₁ A' Q' E' ho₁ hq
        refine next_plain ho₁ hd hf ht hled hp ?_
        rw [asc_step D.tab.asc hpl es.size (Nat.le_refl _)]
        rw [Array.getElem?_eq_none (Nat.le_refl _)]
        exact hq
    | true =>
      simp only [Bool.not_false, Bool.true_and, if_true]
      refine wpAny_bind (drawOrder_ _ _ _ _ (List.length_range) fun d ps hps => ?_)
      have hpl : ps.length = es.size := by have := hps.length_eq; simpa using this
      refine wpAny_bind (wpAny_newTuple ?_ (by rw [List.length_map, hpl]; have := D.size; omega))
      have ho2 : (s.heap.push { cls := .type "tuple", data := .seq (ps.map fun (i : Nat) => rawInt i).toArray }).get? S = some o := Heap.get?_push_of_some _ ho
      unfold setEpoch
      refine wpAny_bind (wpAny_bind (wpAny_setState_of (s := { s with drawn := d, heap := s.heap.push { cls := .type "tuple", data := .seq (ps.map fun (i : Nat) => rawInt i).toArray } }) ho2 hd hf (wpAny_pure ?_)))
      refine wpAny_bind (wpAny_newObj_type (wpAny_pure ⟨_, rfl, "set_iterator", _, ⟨_, Heap.get?_push_size _ rfl, rfl⟩, slot_setiter_next.lookup, ?_⟩))
      have hsz : (s.heap.push { cls := .type "tuple", data := .seq (ps.map fun (i : Nat) => rawInt i).toArray }).objs.size = s.heap.objs.size + 1 := Heap.size_push ..
      have hps' : ∀ p ∈ ps, p < es.size := fun p hp => by simpa using hps.mem_iff.mp hp
      refine h _ _ _ ⟨⟨_, _, d, rfl⟩, Nat.le_refl _, fun b o e => Heap.get?_push_of_some _ (Heap.get?_push_of_some _ e)⟩ (Heap.get?_none_of_le (by rw [hsz]; exact Nat.le_succ _)) ?_ D.vals
      have hv : ∀ i : Nat, i < es.size → ∃ p k v, ps[i]? = some p ∧ es[p]? = some (k, v) ∧ (ps.map fun p => ((es[p]?).map (·.2)).getD .none)[i]? = some v := fun i hi => by
        have hip : i < ps.length := by omega
        have hpe := hps' ps[i] (List.getElem_mem hip)
        refine ⟨ps[i], es[ps[i]].1, es[ps[i]].2, List.getElem?_eq_getElem hip, Array.getElem?_eq_getElem hpe, ?_⟩
        rw [List.getElem?_map, List.getElem?_eq_getElem hip]
        simp [hpe]
      refine ⟨_, _, _, _, (ps.map fun p => ((es[p]?).map (·.2)).getD .none), fun A' hh' => hlen ▸ walks_setD (I := (s.heap.push { cls := .type "tuple", data := .seq (ps.map fun (i : Nat) => rawInt i).toArray }).objs.size) (S := S) (T := s.heap.objs.size) (ep := ep) hh' (by rw [hsz]; exact Nat.ne_of_lt (Nat.lt_succ_of_lt hSlt)) (by rw [hsz]; exact Nat.ne_of_lt (Nat.lt_succ_self _)) hd hf (ps := ps) (oT := { cls := .type "tuple", data := .seq (ps.map fun (i : Nat) => rawInt i).toArray }) rfl hpl hv,
        ⟨⟨_, Heap.get?_push_size _ rfl, rfl, by rw [hlen]; rfl⟩, Heap.get?_push_of_some _ ho2, Heap.get?_push_of_some _ (Heap.get?_push_size _ rfl)⟩, ?_, .head _, fun i s' x => x.1.typeIs, ?_, fun _ _ e => e, fun b hb => List.mem_singleton.mp hb, fun b hb => ?_⟩
      · intro b hb
        show b < ((s.heap.push _).push _).objs.size
        rw [Heap.size_push, hsz]
        rcases List.mem_cons.mp hb with q | hb
        · rw [q, hsz]; exact Nat.lt_succ_self _
        rcases List.mem_cons.mp hb with q | hb
        · rw [q]; exact Nat.lt_succ_of_lt (Nat.lt_succ_of_lt hSlt)
        · rw [List.mem_singleton.mp hb]; exact Nat.lt_succ_of_lt (Nat.lt_succ_self _)
      · refine (hps.map _).trans (List.Perm.of_eq ?_)
        apply List.ext_getElem (by simp)
        intro i h1 h2
        simp at h1
        simp [h1]
      · rcases List.mem_cons.mp hb with q | hb
        · rw [q, hsz]; exact .inr (Heap.get?_none_of_le (Nat.le_succ _))
        rcases List.mem_cons.mp hb with q | hb
        · exact .inl q
        · rw [List.mem_singleton.mp hb]; exact .inr (Heap.get?_none_of_le (Nat.le_refl _))
end
end Mine
namespace Mine
open PySem PySem.W PyProof.Rows

theorem ints_map {vals : List Value} {ns : List Int} (h : IntsAre vals ns) : ns = vals.map valInt ∧ ∀ v ∈ vals, ∃ i u, v = .int i u := by
  induction h with
  | nil => exact ⟨rfl, fun v hv => by cases hv⟩
  | cons i t _ ih =>
    refine ⟨by rw [List.map_cons, ← ih.1]; rfl, fun v hv => ?_⟩
    rcases List.mem_cons.mp hv with q | hv
    · exact ⟨_, _, q⟩
    · exact ih.2 v hv
theorem SetVals.perm {vs : List Value} {ks : List Int} {vals vals' : List Value} (h : SetVals vs ks vals) (p : vals'.Perm vals) : SetVals vs ks vals' := by
  obtain ⟨ns, h1, h2, h3, h4, h5⟩ := h
  obtain ⟨rfl, hi⟩ := ints_map h1
  refine ⟨vals'.map valInt, ints_of fun v hv => hi v (p.mem_iff.mp hv), (p.map _).nodup_iff.mpr h2, fun k => ((p.map _).mem_iff).trans (h3 k), fun v hv => h4 v (p.mem_iff.mp hv), by rw [p.length_eq]; exact h5⟩

theorem items_eq {order : List Value} {acc : Array Value} {n : Nat} (hn : order.length = n) (h : ItemsOf (fun i v => order[i]? = some v) acc n) : acc.toList = order := by
  apply List.ext_getElem (by rw [Array.length_toList, h.1, hn])
  intro i h1 h2
  have h1' : i < acc.size := by simpa using h1
  have : order[i]? = some acc[i] := h.2 i acc[i] (Array.getElem?_eq_getElem h1')
  rw [List.getElem?_eq_getElem h2] at this
  simpa using (Option.some.inj this).symm

section
variable {prog : Program} {w : World} {A : Around} {E : Value → Shared → Prop} {s : Shared}

theorem hint_set {S : Addr} {Q : Bool → Shared → Prop} (hT : s.TypeIs (.ref S) "set") (h : Q false s) : wpAny (model prog w) A (Builtin.List.listLengthHint (.ref S)) Q E s := by
  unfold Builtin.List.listLengthHint
  refine wpAny_bind (wpAny_specialOf hT PySem.F.slot_set_len.lookup ?_)
  (generalize hid : ("set.__len__" : String) = id0; (fail_if_success (clear hid id0)); wp_delta; rw [show splitId id0 = some ("set", "__len__") from by subst hid; decide +kernel]; subst hid)
  refine wpAny_bind (wpAny_isInstance (b := true) hT (by rw [isSubtype_type]; kernel_rfl) ?_)
  refine wpAny_bind (wpAny_typeOf hT ?_)
  exact wpAny_pure h

theorem collect_set {S : Addr} {vs : List Value} {ks : List Int} {Q : List Value → Shared → Prop} (hh : A.handled = none) (hS : SetAt s.heap S (ledBy w) vs ks) (hz : ks.length ≤ sizeLine)
    (h : ∀ s' acc, KpD s s' → SetVals vs ks acc → Q acc s') : wpAny (model prog w) A (collect (.ref S)) Q E s := by
  have hS' := hS
  obtain ⟨o, es, ep, t, ho, hex, hd, D⟩ := hS'
  have hSlt : S < s.heap.objs.size := Heap.lt_size ho
  unfold collect
  refine wpAny_bind (wpAny_runValue (codeAny_builtin F.entry_proto_collect ?_))
  rw [Around.under_plainId F.plain_proto_collect _]
  show wpAny _ A.in1 (newList [] >>= fun l => again (.builtin "list.__iadd__" ⟨[l, .ref S], []⟩)) _ _ s
  refine wpAny_bind (wpAny_newObj_type ?_)
  refine wpAny_pure ⟨plainId_quiet F.plain_list_iadd _, codeAny_builtin F.entry_list_iadd ?_⟩
  rw [Around.under_plainId F.plain_list_iadd _]
  have hS₁ : SetAt (s.heap.push { cls := .type "list", data := .seq ([] : List Value).toArray }) S (ledBy w) vs ks := hS.at fun o e => Heap.get?_push_of_some _ e
  have hT₁ : Shared.TypeIs { s with heap := s.heap.push { cls := .type "list", data := .seq ([] : List Value).toArray } } (.ref S) "set" := ⟨o, Heap.get?_push_of_some _ ho, hex.1⟩
  show wpAny _ A.in1 (Builtin.List.listExtendWith (.ref s.heap.objs.size) (.ref S) (.ref s.heap.objs.size)) _ _ _
  unfold Builtin.List.listExtendWith
  refine wpAny_bind (wpAny_typeOf hT₁ ?_)
  have h1 : Builtin.List.listSameRef (.ref s.heap.objs.size) (.ref S) = false := by simp [Builtin.List.listSameRef, Ne.symm (Nat.ne_of_lt hSlt)]
  have h2 : (Value.type "set" == Value.type "list") = false := by decide
  have h3 : (Value.type "set" == Value.type "tuple") = false := by decide
  simp only [h1, h2, h3, Bool.or_false, Bool.false_eq_true, if_false]
  refine wpAny_bind (pyIter_set hS₁ hz fun I s₂ vals k₂ hIn hW hV => ?_)
  obtain ⟨fp, wr, G, St, order, W, hst, hfp, hI, hTy, hperm, hG, hwr, hold⟩ := hW
  have hT₂ : s₂.TypeIs (.ref S) "set" := ⟨o, k₂.sub _ _ (Heap.get?_push_of_some _ ho), hex.1⟩
  refine wpAny_bind (wpAny_holding (hint_set hT₂ ?_))
  have hD₂ : s₂.heap.get? s.heap.objs.size = some { cls := .type "list", data := .seq ([] : List Value).toArray } := k₂.sub _ _ (Heap.get?_push_size _ rfl)
  have hDf : s.heap.objs.size ∉ fp := fun hm => by
    rcases hold _ hm with q | q
    · exact absurd q (Ne.symm (Nat.ne_of_lt hSlt))
    · rw [Heap.get?_push_size _ rfl] at q; cases q
  have hol : order.length = vals.length := hperm.length_eq
  have hvl : vals.length ≤ sizeLine := by obtain ⟨_, _, _, _, _, q⟩ := hV; omega
  have W1 := W A.in1.in1 (by simp [hh])
  rw [if_pos (by decide +kernel)]
  refine wpAny_bind (wpAny_rule (wpAny_bind ?_))
  show wpAny _ A.in1 (updateSeq s.heap.objs.size (·.push .none) >>= fun _ => updateSeq s.heap.objs.size (·.pop)) _ _ _
  refine wpAny_bind (wpAny_updateSeq hD₂ rfl ?_)
  have hD₃ := Heap.get?_update_self (Obj.mapSeq (·.push Value.none)) hD₂ rfl
  refine wpAny_updateSeq hD₃ rfl ?_
  have hD₄ := Heap.get?_update_self (Obj.mapSeq (·.pop)) hD₃ rfl
  have oth : ∀ b o, b ≠ s.heap.objs.size → s₂.heap.get? b = some o → ((s₂.heap.update s.heap.objs.size (Obj.mapSeq (·.push Value.none))).update s.heap.objs.size (Obj.mapSeq (·.pop))).get? b = some o :=
    fun b o hb e => (Heap.get?_update_other _ _ (Ne.symm hb)).trans ((Heap.get?_update_other _ _ (Ne.symm hb)).trans e)
  refine wpAny_pure ⟨plainId_quiet F.plain_extend_loop _, codeAny_extend_loopS (A := A) (W A.in1 (by simp [hh])) hvl _ hDf _ vals.length 0 _ _ _ rfl (Nat.zero_le _)
    ((W A.in1 (by simp [hh])).frame 0 s₂ _ s₂.toks hst (Nat.le_refl _) fun b hb o e => oth b o (fun q => hDf (q ▸ hb)) e) hD₄ (ItemsOf.nil _) fun s' acc' c' hm hS' hacc => ?_⟩
  show wpAny _ A (load s.heap.objs.size >>= _) _ _ s'
  refine wpAny_bind (wpAny_load hS' ?_)
  refine wpAny_pure (h s' acc'.toList ?_ ?_)
  · obtain ⟨⟨h2, tk2, d2, rfl⟩, k2t, k2s⟩ := k₂
    obtain ⟨h', g', d', tk', os'⟩ := s'
    have eg := hG _ _ hm.gens
    have ed : d' = d2 := hm.drawn
    have eo : os' = s.os := hm.os
    dsimp only at eg
    subst eg; subst ed; subst eo
    refine ⟨⟨h', tk', d', rfl⟩, Nat.le_trans k2t hm.toks, fun b o e => ?_⟩
    have hb : b < s.heap.objs.size := Heap.lt_size e
    refine hm.heap b o (fun q => ?_) (oth b o (Nat.ne_of_lt hb) (k2s _ _ (Heap.get?_push_of_some _ e)))
    rcases List.mem_cons.mp q with q | q
    · exact Nat.ne_of_lt hb q
    · have := Heap.get?_push_of_some { cls := .type "list", data := .seq ([] : List Value).toArray } e
      rw [hwr b q] at this
      rw [hIn] at this; cases this
  · rw [items_eq hol hacc]; exact hV.perm hperm
end
end Mine
namespace Mine
open PySem PySem.W PyProof.Rows

section
variable {prog : Program} {w : World} {A : Around} {E : Value → Shared → Prop} {s : Shared}

theorem sort_small {a : Addr} {vs : List Value} {n : Nat} {P : PySem.Fin → Shared → Prop} (ho : s.heap.get? a = some (seqObj "list" vs.toArray n)) (h2 : vs.length < 2)
    (h : P (.done (.ret .none)) { s with heap := sortedHeap s.heap a vs vs.toArray }) :
    wpAny (model prog w) A (Builtin.«list.sort» ⟨[.ref a], []⟩) P E s := by
  rw [list_sort_plain]
  have ha : a < s.heap.objs.size := Heap.lt_size ho
  refine wpAny_bind (listItems_at ho rfl ?_)
  refine wpAny_bind (listUpdate_at ho rfl ?_ (by rw [List.size_toArray, sizeLine_eq]; omega) (Nat.zero_le _))
  obtain ⟨e1, ho1⟩ : ∃ e1, (s.heap.update a (Obj.mapSeq fun _ => (#[] : Array Value))).get? a = some (seqObj "list" #[] e1) := ⟨_, get?_update_seq ho fun _ => #[]⟩
  refine wpAny_bind (seqEpoch_at ho1 rfl ?_)
  refine wpAny_bind (wpAny_newTuple ?_ (by show vs.length ≤ _; rw [sizeLine_eq]; omega))
  refine wpAny_bind (wpAny_newList ?_ (Nat.zero_le _))
  refine wpAny_holding ?_
  have ho6 : (((s.heap.update a (Obj.mapSeq fun _ => (#[] : Array Value))).push (seqObj "tuple" vs.toArray 0)).push (seqObj "list" #[] 0)).get? a = some (seqObj "list" #[] e1) :=
    Heap.get?_push_of_some _ (Heap.get?_push_of_some _ ho1)
  show wpAny (model prog w) A _ P E { s with heap := ((s.heap.update a (Obj.mapSeq fun _ => (#[] : Array Value))).push (seqObj "tuple" vs.toArray 0)).push (seqObj "list" #[] 0) }
  dsimp only
  have hn2 : vs.toArray.size < 2 := by rw [List.size_toArray]; omega
  rw [if_pos hn2, if_pos hn2]
  refine wpAny_bind (wpAny_pure ?_)
  rw [StateT.run_pure]
  refine wpAny_bind (wpAny_pure ?_)
  dsimp only
  have hout : (arrOf (SortSt.mk' general' (vs.toArray.zip vs.toArray) #[] 7 none)).map (·.2) = vs.toArray := by
    show (vs.toArray.zip vs.toArray).map (·.2) = _
    apply Array.toList_inj.mp
    rw [Array.toList_map, Array.toList_zip]
    apply List.ext_getElem (by simp)
    intro i h1 h2
    simp
  rw [hout]
  refine wpAny_bind (seqEpoch_at ho6 rfl ?_)
  refine wpAny_bind (listUpdate_at ho6 rfl ?_ (Nat.zero_le _) (by show vs.toArray.size ≤ _; rw [List.size_toArray, sizeLine_eq]; omega))
  simp only [bne_self_eq_false, Bool.false_eq_true, if_false]
  exact wpAny_pure h

theorem sort_ints' {a : Addr} {vs : List Value} {ns : List Int} {n : Nat} {P : PySem.Fin → Shared → Prop} (ho : s.heap.get? a = some (seqObj "list" vs.toArray n)) (hI : IntsAre vs ns) (h64 : vs.length < 64)
    (h : ∀ us ms, IntsAre us ms → ms.Perm ns → ms.Pairwise (· ≤ ·) → (∀ v ∈ us, v ∈ vs) → P (.done (.ret .none)) { s with heap := sortedHeap s.heap a vs us.toArray }) :
    wpAny (model prog w) A (Builtin.«list.sort» ⟨[.ref a], []⟩) P E s := by
  rcases Nat.lt_or_ge vs.length 2 with h2 | h2
  · refine sort_small ho h2 (h vs ns hI (List.Perm.refl _) ?_ fun _ hv => hv)
    have hl := hI.length
    match ns, hl with
    | [], _ => exact .nil
    | [x], _ => exact List.pairwise_singleton _ _
    | x :: y :: r, hl => simp at hl; omega
  · refine sort_told intOrd (fun i => ns.getD i 0) ho h2 h64 (fun s' Q E _ hq => kind_ints hI h2 hq) (fun s' i j C E _ hi hj hC => ?_) fun p hp hpp hup => ?_
    · obtain ⟨t, e⟩ := ints_get hI hi
      obtain ⟨u, e'⟩ := ints_get hI hj
      rw [e, e', keyLt'_oneType]
      exact oneLt_int hC
    · have hpl : p.toList.Perm (List.range vs.length) := by
        have := Array.perm_iff_toList_perm.mp hpp
        simpa using this
      have hlt : ∀ i ∈ p.toList, i < vs.length := fun i hi => by simpa using hpl.mem_iff.mp hi
      have hlen : ns.length = vs.length := hI.length.symm
      refine h _ _ (ints_perm hI p.toList hlt) (perm_getD ns 0 (hlen ▸ hpl)) ?_ fun v hv => ?_
      · rw [List.pairwise_iff_getElem]
        intro i j hi hj hij
        simp only [List.length_map, Array.length_toList] at hi hj
        have h1 := hup i j (Nat.le_of_lt hij) (by omega)
        unfold KP at h1
        have h2 : decide (ns.getD (p.getD j 0) 0 < ns.getD (p.getD i 0) 0) = false := h1
        simp only [decide_eq_false_iff_not] at h2
        have e1 : p.getD i 0 = p[i] := by simp [Array.getD, hi]
        have e2 : p.getD j 0 = p[j] := by simp [Array.getD, hj]
        rw [e1, e2] at h2
        rw [List.getElem_map, List.getElem_map, Array.getElem_toList, Array.getElem_toList]
        exact Int.not_lt.mp h2
      · obtain ⟨i, hi, rfl⟩ := List.mem_map.mp hv
        rw [List.getD_eq_getElem?_getD, List.getElem?_eq_getElem (hlt i hi)]
        exact List.getElem_mem _

theorem sorted_set {S : Addr} {vs : List Value} {ks : List Int} {Q : Value → Shared → Prop} (hh : A.handled = none) (hS : SetAt s.heap S (ledBy w) vs ks) (hz : ks.length < 64)
    (h : ∀ D s' us ms, KpD s s' → s.heap.get? D = none → LL s'.heap D us → IntsAre us ms → ms.Nodup → (∀ k, k ∈ ms ↔ k ∈ ks) → ms.Pairwise (· ≤ ·) → (∀ v ∈ us, v ∈ vs) → us.length ≤ ks.length → Q (.ref D) s') :
    wpAny (model prog w) A (call (.builtin "sorted") [.ref S]) Q E s := by
  refine Calls.call_function_entry kind_sorted plain_sorted entry_sorted (args_sorted1 _) ?_
  unfold Builtin.«sorted»
  refine wpAny_bind (m := checkCount "sorted" 1 1 _) (wpAny_pure ?_)
  refine wpAny_bind (collect_set (by simp [hh]) hS (by rw [sizeLine_eq]; omega) fun s₁ acc k₁ hV => ?_)
  obtain ⟨ns, hI, hnd, hmem, hin, hlen⟩ := hV
  refine wpAny_bind (wpAny_newList ?_ (by rw [sizeLine_eq]; omega))
  have hoL : (s₁.heap.push (seqObj "list" acc.toArray 0)).get? s₁.heap.objs.size = some (seqObj "list" acc.toArray 0) := Heap.get?_push_size _ rfl
  refine wpAny_bind (wpAny_holding (wpAny_call_entry slot_list_sort ⟨_, hoL, rfl⟩ entry_list_sort (sort_ints' (s := { s₁ with heap := s₁.heap.push (seqObj "list" acc.toArray 0) }) hoL hI (by omega) fun us ms h1 h2 h3 h4 => ⟨_, rfl, ?_⟩) (args_list_sort _)))
  refine wpAny_pure ⟨_, rfl, ?_⟩
  obtain ⟨e, he⟩ := sortedHeap_at (vs := acc) (out := us.toArray) hoL
  have hDn : s.heap.get? s₁.heap.objs.size = none := by
    cases q : s.heap.get? s₁.heap.objs.size with
    | none => rfl
    | some o => exact absurd (Heap.lt_size (k₁.sub _ _ q)) (Nat.lt_irrefl _)
  refine h _ { s₁ with heap := sortedHeap (s₁.heap.push (seqObj "list" acc.toArray 0)) s₁.heap.objs.size acc us.toArray } us ms (k₁.trans (Kp.d (Kp.heap (s := s₁) (fun b o q => ?_) (Nat.le_refl _)))) hDn ⟨e, he⟩ h1 (h2.nodup_iff.mpr hnd) (fun k => (h2.mem_iff).trans (hmem k)) h3 (fun v hv => hin v (h4 v hv)) ?_
  · have hlt : b < s₁.heap.objs.size := Heap.lt_size q
    rw [sortedHeap_old (Nat.ne_of_lt hlt) (by rw [size_push']; exact Nat.lt_succ_of_lt hlt)]
    exact Heap.get?_push_of_some _ q
  · have e1 := h1.length
    have e2 := h2.length_eq
    have e3 := hI.length
    omega
end
end Mine
namespace Mine
open PySem PySem.W PyProof.Rows

theorem LF.drew {s₀ s : Shared} {X : List Addr} {g : Heap} {env : Env} {m cm : Str → Option Value} (F : LF s₀ X g env m cm s) (d : Drawn) : LF { s₀ with drawn := d } X g env m cm { s with drawn := d } :=
  { F with same := by obtain ⟨h, t, rfl⟩ := F.same; exact ⟨h, t, rfl⟩ }

section
variable {prog : Program} {w : World} {A : Around} {E : Value → Shared → Prop} {s s₀ : Shared} {X : List Addr} {g : Heap} {m cm : Str → Option Value} {env : Env}

theorem comp_toks {α : Type} {newAcc : Sem Value} {fe : Sem α} {c : Value → α → Code} {R : Value → α → Result → Shared → Prop} {n : Nat} (hn : n ≤ s.toks)
    (h : wpAny (model prog w) A newAcc (fun acc s₃ => wpAny (model prog w) A fe (fun cenv s₄ => codeAny (model prog w) A (c acc cenv) (fun r s' => n ≤ s'.toks → R acc cenv r s') s₄) E s₃) E s) :
    wpAny (model prog w) A newAcc (fun acc s₃ => wpAny (model prog w) A fe (fun cenv s₄ => codeAny (model prog w) A (c acc cenv) (R acc cenv) s₄) E s₃) E s :=
  wpAny_mono (wpAny_toks_of hn (wpAny_mono h (fun _ _ q => q) fun _ _ q => q)) (fun acc s₃ q => wpAny_mono (wpAny_toks_of q.1 (wpAny_mono q.2 (fun _ _ q => q) fun _ _ q => q)) (fun cenv s₄ q => codeAny_mono (codeAny_toks_of q.1 q.2) fun r s' q => q.2 q.1) fun _ _ q => q.2) fun _ _ q => q.2

theorem dcomp_set {kx vx iter : Expr} {x y : Str} {px py pos spos : Pos} {scope : Scope} {cl : List (Str × Addr)} {Q : Flow → Shared → Prop} (FK : Value → Int → Prop) (FV : Value → Value → Prop) (F : LF s₀ X g env m cm s) (hh : A.handled = none)
    (hsw : swapsWith (.DictComp kx vx [⟨.Name x px, iter, [], 0⟩] scope pos) (some (.Name y py)) spos.line env = pure true) (hy : env.kindOf y = some .local)
    (hclos : closureFor scope env = pure cl) (hcell : ∀ z ∈ scope.names, z.2 ≠ .cell) (hkind : scope.kind = .function)
    (hnames : ∀ z ∈ scope.names, z.2 = .local → scope.names.lookup z.1 = some .local) (hx : scope.names.lookup x = some .local)
    (h : wpAny (model prog w) A (eval iter env) (fun xv s₁ => ∃ d ax vs, xv = .ref ax ∧ Kp { s with drawn := d } s₁ ∧ LL s₁.heap ax vs ∧ vs.length ≤ sizeLine ∧
      (∀ C v s₃ m₃ E', v ∈ vs → s₃.heap.Ns C m₃ → m₃ x = some v → Sub s₁.heap s₃.heap → wpAny (model prog w) A (eval kx (compEnvC scope cl C env)) (fun key s₄ => (∃ k, (intKind prog w).is k key = true ∧ FK v k) ∧ Keeps s₃ s₄) E' s₃) ∧
      (∀ C v s₃ m₃ E', v ∈ vs → s₃.heap.Ns C m₃ → m₃ x = some v → Sub s₁.heap s₃.heap → wpAny (model prog w) A (eval vx (compEnvC scope cl C env)) (fun y s₄ => FV v y ∧ Keeps s₃ s₄) E' s₃) ∧
      (∀ D kvs s', StoredAll FK FV vs kvs → s'.heap.DictOf (intKind prog w) D kvs → s.heap.get? D = none → LF { s₀ with drawn := d } X g env (upd m y (.ref D)) cm s' → Q .next s')) E s)
    (hs : ∀ x, foldedSetIterable iter env x = pure x := by intro _; rfl) :
    wpAny (model prog w) A (exec (.Assign [.Name y py] (.DictComp kx vx [⟨.Name x px, iter, [], 0⟩] scope pos) spos) env) Q E s := by
  rw [exec_Assign_Name_used _ _ _ _ hsw]
  refine wpAny_bind (wpAny_standAt (wpAny_bind ?_))
  show wpAny _ A (do let _ ← comprehension (.DictComp kx vx [⟨.Name x px, iter, [], 0⟩] scope pos) scope env _ newDict false (eval iter env) (some (assign (.Name y py) env))) _ _ s
  refine wpAny_bind (wpAny_mono (wpAny_comprehension_free (use := some (assign (.Name y py) env)) (Q := fun _ s' => Q .next s') rfl hs hclos hkind hnames
    (wpAny_mono h (fun xv s₁ h₁ => ?_) fun _ _ e => e)) (fun _ s' hq => wpAny_pure (wpAny_pure hq)) fun _ _ e => e)
  obtain ⟨d, ax, vs, rfl, k₁, hl, hsz, hkey, hval, hQ⟩ := h₁
  have hlt : ax < s₁.heap.objs.size := by obtain ⟨_, e⟩ := hl; exact Heap.lt_size e
  have up : ∀ (s₃ : Shared), (∀ b o, b ∉ [s₁.heap.objs.size] → (s₁.heap.push { cls := .type "list_iterator", data := .fields #[.ref ax, .int 0 0] }).get? b = some o → s₃.heap.get? b = some o) → Sub s₁.heap s₃.heap :=
    fun s₃ hk b o e => hk b o (fun hm => by rw [List.mem_singleton.mp hm] at e; exact Nat.lt_irrefl _ (Heap.lt_size e)) (Heap.get?_push_of_some _ e)
  refine wpAny_pyIter_list hl.is ?_
  refine comp_toks (Nat.le_refl s₁.toks) ?_
  refine comp_block_walkCD (knd := intKind prog w) (RR := fun acc C r s' => s₁.toks ≤ s'.toks → compPost (model prog w) A E (some (assign (.Name y py) env)) (fun _ s' => Q .next s') acc C r s') (Walks.list hh _ _ (Nat.ne_of_lt hlt) vs.toArray) (by rw [List.size_toArray]; exact hsz) (fun _ => true)
    FK FV hcell hkind hx ⟨⟨_, Heap.get?_push_size _ rfl, rfl, rfl⟩, hl.is.push _⟩ ?_ ⟨?_, ?_, ?_⟩ ?_
  · intro b hb
    show b < (s₁.heap.push _).objs.size
    rw [Heap.size_push]
    rcases List.mem_cons.mp hb with rfl | hb
    · exact Nat.lt_succ_self _
    · rw [List.mem_singleton.mp hb]; exact Nat.lt_succ_of_lt hlt
  · intro C i v s₃ m₃ E' hP hn hm hk
    exact wpAny_pure ⟨rfl, _, _, rfl, fun _ _ e => e⟩
  · intro C i v s₃ m₃ E' hP _ hn hm hk
    exact hkey C v s₃ m₃ E' (by simpa using Array.mem_of_getElem? hP) hn hm (up s₃ hk)
  · intro C i v s₃ m₃ E' hP _ hn hm hk
    exact hval C v s₃ m₃ E' (by simpa using Array.mem_of_getElem? hP) hn hm (up s₃ hk)
  · intro D C h' tk m' kvs vs' hD hC hDC hnC hlD hlen hP hF hk
    have e : vs' = vs := by simpa using list_of_places hlen hP
    subst e
    rw [List.filter_eq_self.mpr (fun _ _ => rfl)] at hF
    intro htk
    have F₁ := (F.drew d).kp k₁
    have hsub : Sub s₁.heap h' := up { s₁ with heap := h' } hk
    have hDs : s.heap.get? D = none := by
      cases e : s.heap.get? D with
      | none => rfl
      | some o => rw [Heap.get?_push_of_some _ (k₁.sub _ _ e)] at hD; cases hD
    have hCs : s.heap.get? C = none := by
      cases e : s.heap.get? C with
      | none => rfl
      | some o => rw [Heap.get?_push_of_some _ (k₁.sub _ _ e)] at hC; cases hC
    have hLs : ∃ o, s.heap.get? env.locals = some o := let ⟨o, _, _, e, _⟩ := F.ns; ⟨o, e⟩
    obtain ⟨oL, hoL⟩ := hLs
    have hCL : C ≠ env.locals := (ne_some hCs hoL).symm
    have hDL : D ≠ env.locals := (ne_some hDs hoL).symm
    have K' : Kp s₁ { s₁ with heap := h', toks := tk } := ⟨⟨h', tk, rfl⟩, htk, hsub⟩
    show wpAny _ A (assign (.Name y py) env (.ref D)) _ _ _
    refine (F₁.kp K').assign hy fun s'' F'' kb ht'' => ?_
    obtain ⟨oC, _, _, hoC, hdC, _⟩ := id hnC
    have hnsC : s''.heap.Ns C m' := hnC.at' fun o e => kb C o hCL e
    refine ⟨m', hnsC, fun h₂ hs₂ => hQ D kvs { s'' with heap := h₂ } hF ((hlD.at fun o e => kb _ _ hDL e).extBut hs₂.extBut hDC) hDs ?_⟩
    have hgC : g.get? C = none := by
      cases e : g.get? C with
      | none => rfl
      | some o => rw [F.sub _ _ e] at hCs; cases hCs
    exact { F'' with
      same := by obtain ⟨hh, tk, e⟩ := F''.same; exact ⟨h₂, tk, by rw [e]⟩
      sub := fun b o e => hs₂.extBut b o (ne_some hgC e) (F''.sub b o e)
      ns := F''.ns.sameBut hs₂ (Ne.symm hCL)
      cell := fun x c e => (F''.cell x c e).sameBut hs₂ fun q => by
        obtain ⟨o, ho, hd⟩ := F''.cell x c e
        have h2 := kb C oC hCL hoC
        rw [q] at ho
        rw [ho] at h2; cases h2
        rw [hd] at hdC; cases hdC }
end
end Mine
namespace Mine
open PySem PySem.W PyProof.Rows

theorem idxOf_sorted : ∀ {ms : List Int} {c : Int}, ms.Pairwise (· ≤ ·) → c ∈ ms → ms.idxOf c = ms.countP (fun x => decide (x < c))
  | x :: r, c, hs, hc => by
    rw [List.pairwise_cons] at hs
    by_cases hx : x = c
    · subst hx
      rw [List.idxOf_cons_self]
      symm
      rw [List.countP_eq_zero]
      intro a ha
      rcases List.mem_cons.mp ha with q | ha
      · subst q; simp
      · have := hs.1 a ha
        simp; exact this
    · have hc' : c ∈ r := (List.mem_cons.mp hc).resolve_left fun q => hx q.symm
      have hlt : x < c := Int.lt_iff_le_and_ne.mpr ⟨hs.1 c hc', hx⟩
      rw [List.idxOf_cons, List.countP_cons_of_pos (by simpa using hlt), idxOf_sorted hs.2 hc', show (x == c) = false from beq_false_of_ne hx]; rfl

theorem stored_all {f : Int → Nat} {l : List Value} {kvs : List (Int × Value)} (h : StoredAll (fun v k => ∃ u, v = .int k u) (fun v y => ∃ k u t, v = .int k u ∧ y = .int (f k : Nat) t) l kvs) :
    (∀ kv ∈ kvs, ∃ t, kv.2 = .int (f kv.1 : Nat) t) ∧ ∀ k u, Value.int k u ∈ l → ∃ y, (k, y) ∈ kvs := by
  induction h with
  | nil => exact ⟨fun _ h => (by cases h), fun _ _ h => (by cases h)⟩
  | @snoc l kvs v k y _ hk hy ih =>
    obtain ⟨u, rfl⟩ := hk
    obtain ⟨k', u', t, e, rfl⟩ := hy
    cases e
    unfold stored
    split
    · rename_i hany
      refine ⟨fun kv hm => ?_, fun k₁ u₁ hm => ?_⟩
      · obtain ⟨kv', h1, rfl⟩ := List.mem_map.mp hm
        split
        · rename_i q; exact ⟨t, by rw [q]⟩
        · exact ih.1 _ h1
      · have key : ∀ y, (k₁, y) ∈ kvs → ∃ y, (k₁, y) ∈ kvs.map (fun kv => if kv.1 = k then (kv.1, Value.int (f k : Nat) t) else kv) := fun y hy => by
          by_cases q : k₁ = k
          · exact ⟨_, List.mem_map.mpr ⟨_, hy, by rw [if_pos q]⟩⟩
          · exact ⟨_, List.mem_map.mpr ⟨_, hy, by rw [if_neg q]⟩⟩
        rcases List.mem_append.mp hm with hm | hm
        · obtain ⟨y, hy⟩ := ih.2 k₁ u₁ hm
          exact key y hy
        · injection List.mem_singleton.mp hm with e1 e2
          obtain ⟨kv, h1, h2⟩ := List.any_eq_true.mp hany
          have h3 : kv.1 = k₁ := by rw [e1]; simpa using h2
          refine key kv.2 ?_
          rw [← h3]; exact h1
    · refine ⟨fun kv hm => ?_, fun k₁ u₁ hm => ?_⟩
      · rcases List.mem_append.mp hm with hm | hm
        · exact ih.1 _ hm
        · rw [List.mem_singleton.mp hm]; exact ⟨t, rfl⟩
      · rcases List.mem_append.mp hm with hm | hm
        · obtain ⟨y, hy⟩ := ih.2 k₁ u₁ hm
          exact ⟨y, List.mem_append_left _ hy⟩
        · injection List.mem_singleton.mp hm with e1 e2
          rw [e1]
          exact ⟨_, List.mem_append_right _ (.head _)⟩

theorem valueAt_all {f : Int → Nat} {kvs : List (Int × Value)} (h : ∀ kv ∈ kvs, ∃ t, kv.2 = .int (f kv.1 : Nat) t) {k : Int} {y : Value} (hy : (k, y) ∈ kvs) : ∃ t, valueAt kvs k = some (.int (f k : Nat) t) := by
  unfold valueAt
  cases e : kvs.find? (fun kv => decide (kv.1 = k)) with
  | none =>
    have := List.find?_eq_none.mp e _ hy
    simp at this
  | some kv =>
    obtain ⟨t, ht⟩ := h kv (List.mem_of_find?_eq_some e)
    have : kv.1 = k := by simpa using List.find?_some e
    exact ⟨t, by rw [this] at ht; rw [Option.map_some, ht]⟩

section
variable {prog : Program} {w : World} {A : Around} {E : Value → Shared → Prop} {s s₀ : Shared} {X : List Addr} {g : Heap} {m cm : Str → Option Value} {L c1 c2 : Addr} {env : Env}

theorem Kp.keeps {s s' : Shared} (k : Kp s s') : Keeps s s' := by
  obtain ⟨⟨h, t, rfl⟩, _, hs⟩ := k
  exact ⟨h, t, rfl, hs⟩

/-- sorted(set(x)) of a list's ints -/
theorem sortedSetK {e : Expr} {p1 p2 p3 p4 : Pos} {l : Addr} {vs : List Value} {ns : List Int} {Q : Value → Shared → Prop} (G : Glb s.heap) (hh : A.handled = none) (hl : s.heap.IsList l vs.toArray) (hI : IntsAre vs ns) (h64 : ns.length < 64)
    (he : ∀ Q : Value → Shared → Prop, Q (.ref l) s → wpAny (model prog w) A (eval e env) Q E s) (hk : env.scope.kind = .function) (hg : env.globals = mainGlobals) (hb : env.builtins = builtinsNs) (hks : env.kindOf "sorted" = some .globalImplicit) (hkt : env.kindOf "set" = some .globalImplicit)
    (h : ∀ D s' us ms, KpD s s' → s.heap.get? D = none → LL s'.heap D us → IntsAre us ms → ms.Nodup → (∀ k, k ∈ ms ↔ k ∈ ns) → ms.Pairwise (· ≤ ·) → (∀ v ∈ us, v ∈ vs) → us.length ≤ ns.length → Q (.ref D) s')
    (hs1 : starEach [Expr.Call (.Name "set" p1) [e] [] p2] env = [(false, eval (Expr.Call (.Name "set" p1) [e] [] p2) env)] := by rfl) (hs2 : starEach [e] env = [(false, eval e env)] := by rfl) :
    wpAny (model prog w) A (eval (.Call (.Name "sorted" p3) [.Call (.Name "set" p1) [e] [] p2] [] p4) env) Q E s := by
  refine call1B (G.nameB (by boot_by_name) ⟨rfl, rfl⟩ (hk := hk) (hx := hks) (hg := hg) (hb := hb)) ?_ hs1
  refine call1T (G.nameB (by boot_by_name) ⟨rfl, rfl⟩ (hk := hk) (hx := hkt) (hg := hg) (hb := hb)) (he _ ?_) hs2
  refine call_set_ints hh hl hI (by unfold scanBound; omega) fun s₁ k₁ hS => ?_
  refine sorted_set hh hS h64 fun D s₂ us ms k₂ hDn hD hU hnd hmem hsrt hin hlen => h D s₂ us ms (k₁.d.trans k₂) ?_ hD hU hnd hmem hsrt hin hlen
  cases q : s.heap.get? D with
  | none => rfl
  | some o => rw [k₁.sub _ _ q] at hDn; cases hDn
end
end Mine
namespace Mine
open PySem PySem.W PyProof.Rows

section
variable {prog : Program} {w : World} {A : Around} {E : Value → Shared → Prop} {s s₀ : Shared} {X : List Addr} {g : Heap} {m cm : Str → Option Value} {L c1 c2 : Addr} {env : Env}

theorem compLF {scope : Scope} {C : Addr} {m₃ : Str → Option Value} {v : Option Value} {s₃ : Shared} (hn : s₃.heap.Ns C m₃) (hc : s₃.heap.IsCell c2 v) (hk : (compEnvC scope [(Str.ofString "ordered", c2)] C (lenv L c1 c2)).scope.kind = .function) :
    LF s₃ [C, c2] (hideAll s₃.heap [C, c2]) (compEnvC scope [(Str.ofString "ordered", c2)] C (lenv L c1 c2)) m₃ (fun _ => v) s₃ where
  same := ⟨_, _, rfl⟩
  tok := Nat.le_refl _
  sub := fun b o e => of_hideAll _ e
  off := fun a ha => hideAll_none _ ha
  ns := hn
  loc := .head _
  cell := fun n c e => by
    have e' : List.lookup n [(Str.ofString "ordered", c2)] = some c := e
    rw [List.lookup_cons] at e'
    split at e'
    · cases e'; exact hc
    · cases e'
  cin := fun n c e => by
    have e' : List.lookup n [(Str.ofString "ordered", c2)] = some c := e
    rw [List.lookup_cons] at e'
    split at e'
    · cases e'; exact .tail _ (.head _)
    · cases e'
  inj := fun n c n' e e₂ => by
    have e' : List.lookup n [(Str.ofString "ordered", c2)] = some c := e
    have e₂' : List.lookup n' [(Str.ofString "ordered", c2)] = some c := e₂
    rw [List.lookup_cons] at e' e₂'
    split at e'
    · rename_i h1
      split at e₂'
      · rename_i h2
        rw [eq_of_beq h1, eq_of_beq h2]
      · cases e₂'
    · cases e'
  fn := hk

theorem l17_12 {Dc Do : Addr} {vs us : List Value} {C : List Nat} {ms : List Int} {Q : Flow → Shared → Prop} (G : Glb g) (hh : A.handled = none) (hroom : A.depth < recursionLimit) (F : LF s₀ (LX L c1 c2) g (lenv L c1 c2) m cm s)
    (hc : cm "codes" = some (.ref Dc)) (hD : LL g Dc vs) (hI : IntsAre vs (zs C)) (h64 : C.length < 64) (ho : cm "ordered" = some (.ref Do)) (hO : LL g Do us) (hOI : IntsAre us ms) (hp : ms.Perm (zs C)) (hsrt : ms.Pairwise (· ≤ ·)) (hin : ∀ v ∈ us, v ∈ vs) (V : Vouched vs)
    (h : ∀ d s' Dl g', LF { s₀ with drawn := d } (LX L c1 c2) g' (lenv L c1 c2) (upd m "lesser" (.ref Dl)) cm s' → Sub g g' → LessAt g' Dl C → s.toks ≤ s'.toks → Q .next s') :
    wpAny (model prog w) A (exec (st 17 12) (lenv L c1 c2)) Q E s := by
  have G₁ := G.up F.sub
  have hlen : (zs C).length < 64 := by rw [List.length_map]; exact h64
  refine wpAny_with_toks (Nat.le_refl s.toks) ?_
  refine dcomp_set (cl := [(Str.ofString "ordered", c2)]) (fun v k => ∃ u, v = .int k u) (fun v y => ∃ k u t, v = .int k u ∧ y = .int ((zs C).countP (fun x => decide (x < k)) : Nat) t) F hh rfl rfl rfl (by decide +kernel) rfl (by decide +kernel) rfl ?_
  refine sortedSetK G₁ hh (hD.up F.sub).is hI hlen (fun Q hq => F.nameC rfl rfl hc hq) rfl rfl rfl rfl rfl fun D s₁ ws ks k₁ hDn hDl hW hnd hmem _ hvin hwl => ?_
  obtain ⟨d, kd⟩ := k₁.draws
  refine ⟨d, D, ws, rfl, kd, hDl, by rw [sizeLine_eq]; omega, ?_, ?_, ?_⟩
  · intro C' v s₃ m₃ E' hv hn hm hsub
    have F₃ := fun scope hk => compLF (scope := scope) (L := L) (c1 := c1) (c2 := c2) hn (((F.cell "ordered" c2 rfl).keeps kd.sub).keeps hsub) hk
    obtain ⟨k, u, rfl⟩ : ∃ k u, v = .int k u := (ints_map hW).2 v hv
    exact LF.name (F₃ _ (by rfl)) rfl hm ⟨⟨k, intKind_is _ _ _ _, u, rfl⟩, Kp.keeps Kp.refl⟩
  · intro C' v s₃ m₃ E' hv hn hm hsub
    have F₃ := fun scope hk => compLF (scope := scope) (L := L) (c1 := c1) (c2 := c2) hn (((F.cell "ordered" c2 rfl).keeps kd.sub).keeps hsub) hk
    obtain ⟨k, u, rfl⟩ : ∃ k u, v = .int k u := (ints_map hW).2 v hv
    have G₃ : Glb s₃.heap := (G₁.up kd.sub).up hsub
    have hO₃ : LL s₃.heap Do us := ((hO.up F.sub).up kd.sub).up hsub
    have hk : k ∈ ms := by
      rw [hp.mem_iff, ← hmem]
      obtain ⟨e1, _⟩ := ints_map hW
      rw [e1]
      exact List.mem_map.mpr ⟨_, hv, rfl⟩
    obtain ⟨hu, hS⟩ := V.safe hin (hvin _ hv)
    refine call2F (name := "indexOf") (k := 6) (c := 65) (G₃.nameU (fun mg n => n.indexOf) ⟨rfl, rfl⟩) (LF.nameC (F₃ _ (by rfl)) rfl rfl ho (LF.name (F₃ _ (by rfl)) rfl hm ⟨G₃.fIndex, call_indexOf_ints G₃ hh hroom hO₃.is hOI hu hS hk fun t s₄ k₄ => ⟨⟨k, u, t, rfl, ?_⟩, k₄.keeps⟩⟩))
    rw [idxOf_sorted hsrt hk, hp.countP_eq]
  · intro Dl kvs s' hF hDict hDn' F' ht
    obtain ⟨g₂, F₂, hgg, hg₂⟩ := F'.ground
    have hM := hDict.mapOf.intMap
    obtain ⟨h1, h2⟩ := stored_all hF
    obtain ⟨o, es, ep, hoD, r⟩ := hM
    have hDX : Dl ∉ LX L c1 c2 := fun hm => by
      obtain ⟨o', e'⟩ := LX.live F Dl hm
      rw [hDn'] at e'; cases e'
    refine h d s' Dl g₂ F₂ hgg ⟨_, ⟨o, es, ep, hg₂ _ _ hDX hoD, r⟩, fun c hc => ?_⟩ ht
    obtain ⟨e1, e2⟩ := ints_map hW
    have hck : c ∈ ks := (hmem c).mpr hc
    rw [e1] at hck
    obtain ⟨v, hv, hvc⟩ := List.mem_map.mp hck
    obtain ⟨k, u, rfl⟩ := e2 v hv
    have : k = c := hvc
    subst this
    obtain ⟨y, hy⟩ := h2 k u hv
    exact valueAt_all (f := fun k => (zs C).countP (fun x => decide (x < k))) h1 hy
end
end Mine
namespace Mine
open PySem PySem.W PyProof.Rows

section
variable {prog : Program} {w : World} {A : Around} {E : Value → Shared → Prop} {s s₀ : Shared} {X : List Addr} {g : Heap} {m cm : Str → Option Value} {L c1 c2 : Addr} {env : Env}

theorem l17_18' {Q : Flow → Shared → Prop} (h : Q (.ret (.bool true)) s) :
    wpAny (model prog w) A (exec (st 17 18) (lenv L c1 c2)) Q E s := by
  show wpAny (model prog w) A (exec (.Return (some (.Constant (.bool true) _ _)) _) (lenv L c1 c2)) Q E s
  exact wpAny_Return_some (wpAny_Constant_bool h)

/-- a for over a list's iterator; all else stands as it stood -/
theorem for_iter3 {R : Result → Shared → Prop} {x : Str} {px : Pos} {body : List Stmt} {I l : Addr} {vs : List Value} (J : Nat → Heap → (Str → Option Value) → Prop)
    (hh : A.handled = none) (F : LF s₀ X g env m cm s) (hI : s.heap.IsListIter I l 0) (hIX : I ∈ X) (hl : g.IsList l vs.toArray) (hx : env.kindOf x = some .local)
    (hJ : J 0 g m)
    (turn : ∀ (E' : Value → Shared → Prop) i v g₁ m₁ s₁, vs[i]? = some v → Sub g g₁ → J i g₁ m₁ → LF s₀ X g₁ env (upd m₁ x v) cm s₁ → s₁.heap.IsListIter I l (i + 1) → s.toks ≤ s₁.toks → (∀ b o, b ≠ env.locals → b ≠ I → s.heap.get? b = some o → s₁.heap.get? b = some o) →
      wpAny (model prog w) A (execs body env) (fun f s₂ => match f with
        | .next | .cont => ∃ g₂ m₂, Sub g₁ g₂ ∧ J (i + 1) g₂ m₂ ∧ LF s₀ X g₂ env m₂ cm s₂ ∧ KB env.locals s₁ s₂ ∧ s₁.toks ≤ s₂.toks
        | .brk => R (.ok .next) s₂
        | .ret v => R (.ok (.ret v)) s₂) E' s₁)
    (done : ∀ g₁ m₁ s₁, Sub g g₁ → J vs.length g₁ m₁ → LF s₀ X g₁ env m₁ cm s₁ → s.toks ≤ s₁.toks → (∀ b o, b ≠ env.locals → b ≠ I → s.heap.get? b = some o → s₁.heap.get? b = some o) → R (.ok .next) s₁) :
    codeAny (model prog w) A (.forLoop (.Name x px) (.ref I) body [] env) R s := by
  refine codeAny_forLoop_any
    (fun n s₁ => ∃ i g₁ m₁, n = vs.length - i ∧ i ≤ vs.length ∧ Sub g g₁ ∧ J i g₁ m₁ ∧ LF s₀ X g₁ env m₁ cm s₁ ∧ s₁.heap.IsListIter I l i ∧ s.toks ≤ s₁.toks ∧ (∀ b o, b ≠ env.locals → b ≠ I → s.heap.get? b = some o → s₁.heap.get? b = some o)) ?_ vs.length
    ⟨0, g, m, rfl, Nat.zero_le _, Sub.refl, hJ, F, hI, Nat.le_refl _, fun _ _ _ _ e => e⟩
  rintro n s₁ ⟨i, g₁, m₁, rfl, h1, hg, hJ', F₁, hI₁, ht, hk⟩
  have hl₁ : s₁.heap.IsList l vs.toArray := hl.at fun o e => F₁.sub _ _ (hg _ _ e)
  have hIl : I ≠ env.locals := F₁.notLoc (flds_iter hI₁)
  have off : ∀ b o, g₁.get? b = some o → b ≠ I := fun b o e q => by rw [q, F₁.off _ hIX] at e; cases e
  have moved : ∀ h' tk, s₁.toks ≤ tk → (∀ b o, b ≠ I → s₁.heap.get? b = some o → h'.get? b = some o) → LF s₀ X g₁ env m₁ cm { s₁ with heap := h', toks := tk } := fun h' tk htk hk =>
    { F₁ with same := (by obtain ⟨hh, tk', rfl⟩ := F₁.same; exact ⟨h', tk, rfl⟩), tok := Nat.le_trans F₁.tok htk, sub := fun b o e => hk b o (off b o e) (F₁.sub b o e),
              ns := F₁.ns.at' fun o e => hk _ _ (Ne.symm hIl) e,
              cell := fun n c e => by
                obtain ⟨o, ho, hd⟩ := F₁.cell n c e
                refine ⟨o, hk c o ?_ ho, hd⟩
                rintro rfl
                obtain ⟨o', ho', _, hd'⟩ := hI₁
                rw [ho] at ho'; cases ho'; rw [hd] at hd'; cases hd' }
  cases hv : vs[i]? with
  | none =>
    refine wpAny_pyNext_list_end hh hI₁ hl₁ (by simpa using hv) fun h' he => ?_
    refine wpAny_execs_nil ?_
    have hi : i = vs.length := by have := List.getElem?_eq_none_iff.mp hv; omega
    subst hi
    exact done g₁ m₁ _ hg hJ' (moved h' _ (Nat.le_refl _) fun b o hb e => he b o hb e) ht fun b o b1 b2 e => he b o b2 (hk b o b1 b2 e)
  | some v =>
    have hlt : i < vs.length := (List.getElem?_eq_some_iff.mp hv).1
    refine wpAny_pyNext_list_item hI₁ hl₁ (by simpa using hv) fun h' hI' hs' => ?_
    show wpAny _ _ (pure ()) _ _ _
    refine wpAny_pure ?_
    refine (moved h' _ (Nat.le_refl _) fun b o hb e => hs'.extBut b o hb e).assign hx fun s₂ F₂ kb₂ ht₂ => ?_
    have hk₂ : ∀ b o, b ≠ env.locals → b ≠ I → s.heap.get? b = some o → s₂.heap.get? b = some o := fun b o b1 b2 e => kb₂ b o b1 (hs'.extBut b o b2 (hk b o b1 b2 e))
    refine wpAny_mono (turn _ i v g₁ m₁ s₂ hv hg hJ' F₂ (hI'.at fun o e => kb₂ _ _ hIl e) (Nat.le_trans ht ht₂) hk₂) (fun f s₃ h₃ => ?_) fun _ _ e => e
    have fin : (∃ g₂ m₂, Sub g₁ g₂ ∧ J (i + 1) g₂ m₂ ∧ LF s₀ X g₂ env m₂ cm s₃ ∧ KB env.locals s₂ s₃ ∧ s₂.toks ≤ s₃.toks) → ∃ m, m < vs.length - i ∧ ∃ i' g₁' m₁', m = vs.length - i' ∧ i' ≤ vs.length ∧ Sub g g₁' ∧ J i' g₁' m₁' ∧ LF s₀ X g₁' env m₁' cm s₃ ∧ s₃.heap.IsListIter I l i' ∧ s.toks ≤ s₃.toks ∧ (∀ b o, b ≠ env.locals → b ≠ I → s.heap.get? b = some o → s₃.heap.get? b = some o) := by
      rintro ⟨g₂, m₂, hg₂, hJ₂, F₃, kb₃, ht₃⟩
      exact ⟨vs.length - (i + 1), by omega, i + 1, g₂, m₂, rfl, hlt, hg.trans hg₂, hJ₂, F₃, hI'.at fun o e => kb₃ _ _ hIl (kb₂ _ _ hIl e), Nat.le_trans (Nat.le_trans ht ht₂) ht₃, fun b o b1 b2 e => kb₃ b o b1 (hk₂ b o b1 b2 e)⟩
    cases f with
    | next => exact fin h₃
    | cont => exact fin h₃
    | brk => exact h₃
    | ret v => exact h₃

theorem tup2_ {e₁ e₂ : Expr} {k : Nat} {pos : Pos} {Q : Value → Shared → Prop}
    (h : wpAny (model prog w) A (eval e₁ env) (fun v₁ s₁ => wpAny (model prog w) A (eval e₂ env) (fun v₂ s₂ => wpAny (model prog w) A (newTuple [v₁, v₂]) Q E s₂) E s₁) E s)
    (hs : backTo pos (starEach [e₁, e₂] env) = [(false, eval e₁ env), (false, eval e₂ env)] := by rfl) : wpAny (model prog w) A (eval (.Tuple [e₁, e₂] k pos) env) Q E s := by
  refine Tuple_ ?_
  rw [hs]
  exact Calls.spliced_cons (wpAny_mono h (fun _ _ h => Calls.spliced_cons (wpAny_mono h (fun _ _ h => Calls.spliced_nil h) fun _ _ e => e)) fun _ _ e => e)
/-- low, high = (0, len(codes)) -/
theorem lowhigh {Dc : Addr} {vs : List Value} {Q : Flow → Shared → Prop} (G : Glb g) (hh : A.handled = none) (F : LF s₀ X g (lenv L c1 c2) m cm s) (hc : cm "codes" = some (.ref Dc)) (hD : LL g Dc vs) (hz : vs.length ≤ 1000)
    (h : ∀ s' t u, LF s₀ X g (lenv L c1 c2) (upd (upd m "high" (.int (vs.length : Nat) u)) "low" (.int 0 t)) cm s' → KB (lenv L c1 c2).locals s s' → s.toks ≤ s'.toks → Q .next s') :
    wpAny (model prog w) A (exec (((within (st 17 17))[0]?).getD default) (lenv L c1 c2)) Q E s := by
  have G₁ := G.up F.sub
  have hDs := hD.up F.sub
  refine Assign_Tuple_swapped (names := [Str.ofString "low", Str.ofString "high"]) (tup2_ (constI fun s₁ t₁ k₁ _ _ => ?_)) (by rfl) (by rfl)
  refine call1B ((G₁.up k₁.sub).nameB (by boot_by_name) ⟨rfl, rfl⟩) ((F.kp k₁).nameC rfl rfl hc (call_len_I ((hDs.up k₁.sub).is) hz fun s₂ t₂ k₂ _ _ => ?_))
  refine tupI (by show 2 ≤ 1000; decide) fun s₃ T k₃ hT hTn => ?_
  refine unpackItems_tuple (items := #[.int 0 t₁, .int vs.length t₂]) hh hT fun h₄ hx₄ => ?_
  have k₄ : Kp s₃ { s₃ with heap := h₄ } := Kp.heap (s := s₃) (fun b o e => hx₄ b o (Nat.ne_of_lt (Heap.lt_size e)) e) (Nat.le_refl _)
  have K := ((k₁.trans k₂).trans k₃).trans k₄
  have F₄ := F.kp K
  generalize hs₄ : ({ s₃ with heap := h₄ } : Shared) = s₄ at K F₄
  have e4 : ({ heap := h₄, gens := s₃.gens, drawn := s₃.drawn, toks := s₃.toks, os := s₃.os } : Shared) = s₄ := hs₄
  show wpAny (model prog w) A (assignInOrder [bindName (lenv L c1 c2) (Str.ofString "high"), bindName (lenv L c1 c2) (Str.ofString "low")] [.int (vs.length : Nat) t₂, .int 0 t₁]) _ _ s₄
  unfold assignInOrder
  refine wpAny_bind (wpAny_holding (bindName_ (F₄.store rfl fun s₅ F₅ kb₅ ht₅ => ?_)))
  unfold assignInOrder
  refine wpAny_bind (wpAny_holding (bindName_ (F₅.store rfl fun s₆ F₆ kb₆ ht₆ => ?_)))
  unfold assignInOrder
  exact wpAny_pure (h s₆ t₁ t₂ F₆ ((KB.ofSub K.sub).trans (kb₅.trans kb₆)) (Nat.le_trans K.tok (Nat.le_trans ht₅ ht₆)))
end
end Mine
namespace Mine
open PySem PySem.W PyProof.Rows

section
variable {prog : Program} {w : World} {A : Around} {E : Value → Shared → Prop} {s s₀ : Shared} {X : List Addr} {g : Heap} {m cm : Str → Option Value} {L c1 c2 : Addr} {env : Env}

/-- as stepK, the lower end handed as an iterator -/
theorem stepIterK {x y : Str} {p1 p2 p3 p4 p5 p6 p7 p8 p9 p10 p11 p12 p13 p14 : Pos} {Dl Dk : Addr} {C : List Nat} {cvs : List Value} {cs : List Int} {c : Int} {u : Nat} {p : Nat} {t : Tok} {Q : Value → Shared → Prop} (G : Glb g) (hh : A.handled = none) (hroom : A.depth < recursionLimit)
    (F : LF s₀ X g (lenv L c1 c2) m cm s) (kx : (lenv L c1 c2).kindOf x = some .local) (ky : (lenv L c1 c2).kindOf y = some .local) (hx : m x = some (.int c u)) (hy : m y = some (.int (p : Nat) t)) (dx : (x == ("__debug__" : Str)) = false) (dy : (y == ("__debug__" : Str)) = false)
    (hl : m "lesser" = some (.ref Dl)) (hL : LessAt g Dl C) (hc : c ∈ zs C) (hk : m "column" = some (.ref Dk)) (hK : LL g Dk cvs) (hI : IntsAre cvs cs) (hz : cvs.length ≤ 1000) (hp : p ≤ cvs.length)
    (hu : u ≠ 0 ∧ Safe cvs c u)
    (h : ∀ s' t', Kp s s' → Q (.int (((zs C).countP (fun x => decide (x < c)) + (cs.take p).count c : Nat) : Int) t') s') :
    wpAny (model prog w) A (eval (.Call (.Name "add" p1) [.Subscript (.Name "lesser" p2) (.Name x p3) p4, .Call (.Name "countOf" p5) [.Call (.Name "iter" p13) [.Subscript (.Name "column" p6) (.Slice none (some (.Name y p7)) none p8) p9] [] p14, .Name x p10] [] p11] [] p12) (lenv L c1 c2)) Q E s := by
  have G₁ := G.up F.sub
  refine call2F (name := "add") (k := 2) (c := 37) (G₁.nameU (fun mg n => n.add) ⟨rfl, rfl⟩) (lessK F kx hx dx hl hL hc fun s₁ t₁ k₁ => ?_) (by rfl)
  have F₁ := F.kp k₁
  have G₂ := G₁.up k₁.sub
  refine call2F (name := "countOf") (k := 4) (c := 51) (G₂.nameU (fun mg n => n.countOf) ⟨rfl, rfl⟩) (call1B (G₂.nameB (by boot_by_name) ⟨rfl, rfl⟩) (colK F₁ ky hy dy hk hK hz hp fun s₂ D k₂ hD hDn => call_iter_list hD.is fun s₃ I k₃ hI₃ hIn => ?_)) (by rfl)
  have G₃ := (G₂.up k₂.sub).up k₃.sub
  refine ((F₁.kp k₂).kp k₃).name kx hx ⟨G₃.fCount, ?_⟩ dx
  have up2 : Sub s₂.heap (hideAll s₃.heap [I]) := fun b o e => hideAll_get _ (k₃.sub _ _ e) fun hm => by
    rw [List.mem_singleton.mp hm, hIn] at e; cases e
  refine call_countOf_iter ((G₂.up k₂.sub).up up2) hh hroom hI₃ (hD.up k₃.sub).is (ints_take hI p) hu.1 (fun i t hm => hu.2 i t (List.mem_of_mem_take hm)) fun t₃ h₄ tk hsub htk => ?_
  have k₄ : Kp s₂ { s₃ with heap := h₄, toks := tk } := by
    obtain ⟨⟨h3, t3, rfl⟩, k3t, k3s⟩ := k₃
    exact ⟨⟨h₄, tk, rfl⟩, Nat.le_trans k3t htk, up2.trans hsub⟩
  have G₄ := (G₂.up k₂.sub).up k₄.sub
  refine ⟨G₄.fAdd, call_add G₄ hroom fun v s₅ k₅ hM => ?_⟩
  obtain ⟨t', rfl, _, _⟩ := hM
  have e : (((zs C).countP (fun x => decide (x < c)) : Nat) : Int) + (((cs.take p).count c : Nat) : Int) = (((zs C).countP (fun x => decide (x < c)) + (cs.take p).count c : Nat) : Int) := by push_cast; rfl
  rw [e]
  exact h s₅ t' (((k₁.trans k₂).trans k₄).trans k₅)

/-- one turn of the inner loop: an octet more ahead of the opening -/
theorem inner_turn {Dl Dk : Addr} {C : List Nat} {cvs : List Value} {rows : List (List Int)} {c : Int} {u : Nat} {P : List Int} {t1 t2 : Tok} {Q : Flow → Shared → Prop} (G : Glb g) (hh : A.handled = none) (hroom : A.depth < recursionLimit)
    (F : LF s₀ X g (lenv L c1 c2) m cm s) (ho : m "octet" = some (.int c u)) (hlo : m "low" = some (.int (lo rows P : Nat) t1)) (hhi : m "high" = some (.int (hi' rows P : Nat) t2))
    (hl : m "lesser" = some (.ref Dl)) (hL : LessAt g Dl C) (hc : c ∈ zs C) (hk : m "column" = some (.ref Dk)) (hK : LL g Dk cvs) (hI : IntsAre cvs (rows.map lst)) (hz : C.length ≤ 1000) (T : Turned (zs C) rows) (hP : P.length < (zs C).length) (V : Vouched cvs)
    (hu : u ≠ 0 ∧ Safe cvs c u)
    (h : ∀ s' t1 t2, LF s₀ X g (lenv L c1 c2) (upd (upd m "low" (.int (lo rows (c :: P) : Nat) t1)) "high" (.int (hi' rows (c :: P) : Nat) t2)) cm s' → KB (lenv L c1 c2).locals s s' → s.toks ≤ s'.toks → Q .next s') :
    wpAny (model prog w) A (execs (within (((within (st 17 17))[1]?).getD default)) (lenv L c1 c2)) Q E s := by
  have hrl : rows.length = C.length := T.size.trans (List.length_map _)
  have hcl : cvs.length = C.length := hI.length.trans ((List.length_map _).trans hrl)
  have hlo' : lo rows P ≤ cvs.length := by rw [hcl, ← hrl]; exact List.countP_le_length
  have hhi'' : hi' rows P ≤ cvs.length := by rw [hcl, ← hrl]; exact List.countP_le_length
  refine wpAny_execs_cons (wpAny_Assign_Name (stepIterK G hh hroom F rfl rfl ho hlo (by decide) (by decide) hl hL hc hk hK hI (by omega) hlo' hu fun s₁ t₁ k₁ => ?_))
  rw [← T.lo_step c P hP]
  refine (F.kp k₁).store rfl fun s₂ F₂ kb₂ ht₂ => ?_
  have a1 : upd m "low" (.int (lo rows (c :: P) : Nat) t₁) "octet" = some (.int c u) := ho
  have a2 : upd m "low" (.int (lo rows (c :: P) : Nat) t₁) "high" = some (.int (hi' rows P : Nat) t2) := hhi
  have a3 : upd m "low" (.int (lo rows (c :: P) : Nat) t₁) "lesser" = some (.ref Dl) := hl
  have a4 : upd m "low" (.int (lo rows (c :: P) : Nat) t₁) "column" = some (.ref Dk) := hk
  refine wpAny_execs_cons (wpAny_Assign_Name (stepK (vs := cvs) G hh hroom F₂ rfl rfl a1 a2 (by decide) (by decide) a3 hL hc a4 hK hI (by omega) hhi'' V (fun _ h => h) hu fun s₃ t₃ k₃ => ?_))
  rw [← T.hi_step c P hP]
  refine (F₂.kp k₃).store rfl fun s₄ F₄ kb₄ ht₄ => ?_
  exact wpAny_execs_nil (h s₄ t₁ t₃ F₄ ((KB.ofSub k₁.sub).trans (kb₂.trans ((KB.ofSub k₃.sub).trans kb₄))) (Nat.le_trans k₁.tok (Nat.le_trans ht₂ (Nat.le_trans k₃.tok ht₄))))
end
end Mine
namespace Mine
open PySem PySem.W PyProof.Rows

theorem ints_rev {vs : List Value} {ns : List Int} (h : IntsAre vs ns) : IntsAre vs.reverse ns.reverse := by
  induction h with
  | nil => exact .nil
  | cons n t _ ih => rw [List.reverse_cons, List.reverse_cons]; exact IntsAre.snoc ih _ _

section
variable {prog : Program} {w : World} {A : Around} {E : Value → Shared → Prop} {s s₀ : Shared} {X : List Addr} {g : Heap} {m cm : Str → Option Value} {L c1 c2 : Addr} {env : Env}

theorem inner_loop {Dl Dk Dn : Addr} {C : List Nat} {cvs : List Value} {rows : List (List Int)} {N : Nat} {tn t1 t2 : Tok} {Q : Flow → Shared → Prop} (G : Glb g) (hh : A.handled = none) (hroom : A.depth < recursionLimit)
    (F : LF s₀ X g (lenv L c1 c2) m cm s) (hX : ∀ a ∈ X, ∃ o, s.heap.get? a = some o) (hn : m "number" = some (.int (N : Nat) tn)) (hnm : m "numbers" = some (.ref Dn)) (hlo : m "low" = some (.int (0 : Nat) t1)) (hhi : m "high" = some (.int (C.length : Nat) t2))
    (hl : m "lesser" = some (.ref Dl)) (hL : LessAt g Dl C) (hk : m "column" = some (.ref Dk)) (hK : LL g Dk cvs) (hI : IntsAre cvs (rows.map lst)) (hz : C.length ≤ 1000) (T : Turned (zs C) rows) (V : Vouched cvs)
    (hsl : (spelled N).length ≤ C.length) (hss : ∀ c ∈ spelled N, c ∈ C) (hmk : ∀ (i : Int) (t : Nat), Value.int i t ∈ cvs → t < s.toks) (hpos : 1 ≤ s.toks)
    (h : ∀ s' m' g' t1 t2, LF s₀ X g' (lenv L c1 c2) m' cm s' → Sub g g' → m' "number" = m "number" → m' "numbers" = m "numbers" → m' "lesser" = m "lesser" → m' "column" = m "column" → m' "low" = some (.int (lo rows (zs (spelled N)) : Nat) t1) → m' "high" = some (.int (hi' rows (zs (spelled N)) : Nat) t2) →
      KB (lenv L c1 c2).locals s s' → s.toks ≤ s'.toks → Q .next s') :
    wpAny (model prog w) A (exec (((within (st 17 17))[1]?).getD default) (lenv L c1 c2)) Q E s := by
  have G₁ := G.up F.sub
  have hzl : (zs C).length = C.length := List.length_map _
  refine wpAny_For (sliceK (call1F (name := "_law_spelled") (k := 16) (c := 103) (G₁.nameU (fun mg n => n.spell) ⟨rfl, rfl⟩) (F.name rfl hn ⟨G₁.fSpell, call_spelled G₁ hroom (by omega) fun D vs s₁ k₁ hD hDn hM => part_none (part_none (part_some (wpAny_UnaryOp (constI fun s₂ t₂ k₂ _ _ => PySem.P.neg_int ?_))))⟩)))
  have k₃ : Kp s₂ { s₂ with toks := s₂.toks + 1 } := Kp.one
  refine ⟨D, vs, none, none, some (-1), rfl, LL.is ((hD.up k₂.sub).up k₃.sub), ?_, .none, .none, .int (-1) _, by decide, fun D' s₄ k₄ hD' hD'n => ?_⟩
  · rw [hM.1.length, List.length_map]; omega
  rw [krv_pick] at hD'
  have K := ((k₁.trans k₂).trans k₃).trans k₄
  have hD'r : LL s₄.heap D' vs.reverse := by simpa using hD'
  obtain ⟨g₂, F₂, hgg, hg₂⟩ := F.grow hX K
  have hD's : s.heap.get? D' = none := by
    cases e : s.heap.get? D' with
    | none => rfl
    | some o =>
      have := ((k₁.trans k₂).trans k₃).sub _ _ e
      rw [hD'n] at this; cases this
  have hDg : LL g₂ D' vs.reverse := let ⟨n, e⟩ := hD'r; ⟨n, hg₂ _ _ hD's e⟩
  refine wpAny_pyIter_list hD'r.is ?_
  have F₃ := (F₂.more F₂.fresh).kp (Kp.heap (s := s₄) (h := s₄.heap.push { cls := .type "list_iterator", data := .fields #[.ref D', .int 0 0] }) (k := s₄.toks) (fun b o e => Heap.get?_push_of_some _ e) (Nat.le_refl _))
  have hSR : IntsAre vs.reverse (zs (spelled N)).reverse := ints_rev hM.1
  have hvl : vs.reverse.length = (zs (spelled N)).length := by rw [hSR.length, List.length_reverse]
  have hSl : (zs (spelled N)).length ≤ C.length := by rw [List.length_map]; exact hsl
  generalize hS : zs (spelled N) = S at *
  have lo0 : lo rows (S.drop (S.length - 0)) = 0 := by rw [Nat.sub_zero, List.drop_length]; exact T.lo_nil
  have hi0 : hi' rows (S.drop (S.length - 0)) = C.length := by rw [Nat.sub_zero, List.drop_length, T.hi_nil]; exact hzl
  refine for_iter3 (vs := vs.reverse) (J := fun i g₁ m₁ => m₁ "number" = m "number" ∧ m₁ "numbers" = m "numbers" ∧ m₁ "lesser" = m "lesser" ∧ m₁ "column" = m "column" ∧
      ∃ t1 t2 : Tok, m₁ "low" = some (.int (lo rows (S.drop (S.length - i)) : Nat) t1) ∧ m₁ "high" = some (.int (hi' rows (S.drop (S.length - i)) : Nat) t2))
    hh F₃ ⟨_, Heap.get?_push_size _ rfl, rfl, rfl⟩ (.head _) hDg.is rfl ⟨rfl, rfl, rfl, rfl, t1, t2, by rw [lo0]; exact hlo, by rw [hi0]; exact hhi⟩ ?_ ?_
  · rintro E' i v g₁ m₁ s₅ hv hsub ⟨j1, j2, j3, j4, u1, u2, j5, j6⟩ F₅ hI₅ ht₅ hk₅
    have hi : i < S.length := by rw [← hvl]; exact (List.getElem?_eq_some_iff.mp hv).1
    obtain ⟨c, u, hc, rfl⟩ := ints_at hSR hv
    have hSi : S[S.length - 1 - i]? = some c := by rw [List.getElem?_reverse hi] at hc; exact hc
    have hlt : S.length - 1 - i < S.length := by omega
    have hSg : S[S.length - 1 - i] = c := by rw [List.getElem?_eq_getElem hlt] at hSi; exact Option.some.inj hSi
    have hdrop : S.drop (S.length - (i + 1)) = c :: S.drop (S.length - i) := by
      rw [show S.length - (i + 1) = S.length - 1 - i by omega, List.drop_eq_getElem_cons hlt, hSg, show S.length - 1 - i + 1 = S.length - i by omega]
    have hcm : c ∈ zs C := by
      have h1 : c ∈ zs (spelled N) := by rw [hS, ← hSg]; exact List.getElem_mem hlt
      obtain ⟨d, hd, rfl⟩ := List.mem_map.mp h1
      exact List.mem_map_of_mem (hss d hd)
    have hum := hM.2 c u (List.mem_reverse.mp (List.mem_of_getElem? hv))
    have hsafe : u ≠ 0 ∧ Safe cvs c u := ⟨fun q => (by have := hum.1; rw [q] at this; exact absurd (Nat.le_trans hpos this) (by decide)), fun i' t' hm => ⟨by have := V.pos i' t' hm; intro q; rw [q] at this; exact absurd this (by decide), fun q => by have := hmk i' t' hm; rw [q] at this; exact absurd this (Nat.not_lt.mpr hum.1)⟩⟩
    refine inner_turn (P := S.drop (S.length - i)) (G.up (hgg.trans hsub)) hh hroom F₅ (u := u) (c := c) rfl j5 j6 (j3.trans hl) (hL.up (hgg.trans hsub)) hcm (j4.trans hk) (hK.up (hgg.trans hsub)) hI hz T (by rw [List.length_drop, hzl]; omega) V hsafe fun s₆ w1 w2 F₆ kb₆ ht₆ => ?_
    refine ⟨g₁, _, Sub.refl, ?_, F₆, kb₆, ht₆⟩
    rw [hdrop]
    exact ⟨j1, j2, j3, j4, w1, w2, rfl, rfl⟩
  · rintro g₁ m₁ s₅ hsub ⟨j1, j2, j3, j4, u1, u2, j5, j6⟩ F₅ ht₅ hk₅
    rw [hvl, Nat.sub_self, List.drop_zero] at j5 j6
    have F₆ := LF.letGo (Y := [_]) F₅ F₂.loc F₂.cin
    refine h s₅ m₁ g₁ u1 u2 F₆ (hgg.trans hsub) j1 j2 j3 j4 j5 j6 (fun b o hb e => hk₅ b o hb (fun q => ?_) (Heap.get?_push_of_some _ (K.sub _ _ e))) (Nat.le_trans K.tok ht₅)
    have := Heap.lt_size (K.sub _ _ e)
    rw [q] at this
    exact Nat.lt_irrefl _ this
end
end Mine
namespace Mine
open PySem PySem.W PyProof.Rows

theorem slice_lohi (items : List Value) (a b : Nat) (ha : a ≤ items.length) (hb : b ≤ items.length) : (slicePick items.toArray (some a) (some b) none).toList = (items.take b).drop a := by
  rw [slicePick_plain]
  simp only [Option.elim, clipAt_nat, List.size_toArray, Nat.min_eq_left ha, Nat.min_eq_left hb]
  rw [List.drop_take]
theorem zs_count (l : List Nat) (n : Nat) : (zs l).count (n : Int) = l.count n := by
  unfold zs
  induction l with
  | nil => rfl
  | cons x r ih =>
    rw [List.map_cons, List.count_cons, List.count_cons, ih]
    congr 1
    by_cases q : x = n
    · subst q; simp
    · have : ¬ ((x : Int) = (n : Int)) := by omega
      simp [q]
      exact this

section
variable {prog : Program} {w : World} {A : Around} {E : Value → Shared → Prop} {s s₀ : Shared} {X : List Addr} {g : Heap} {m cm : Str → Option Value} {L c1 c2 : Addr} {env : Env}

theorem ints_drop {vs : List Value} {ns : List Int} (h : IntsAre vs ns) : ∀ k, IntsAre (vs.drop k) (ns.drop k) := by
  induction h with
  | nil => intro k; simp; exact .nil
  | cons n t h' ih =>
    intro k
    cases k with
    | zero => exact .cons n t h'
    | succ k => exact ih k

theorem if17 {Dk Dn : Addr} {cvs us : List Value} {nums : List Nat} {cs : List Int} {N a b : Nat} {tn t1 t2 : Tok} {Q : Flow → Shared → Prop} (G : Glb g) (hh : A.handled = none) (hroom : A.depth < recursionLimit)
    (F : LF s₀ X g (lenv L c1 c2) m cm s) (hn : m "number" = some (.int (N : Nat) tn)) (hnm : m "numbers" = some (.ref Dn)) (hN : g.IsList Dn us.toArray) (hU : IntsAre us (zs nums)) (hmem : Value.int (N : Nat) tn ∈ us) (VU : Vouched us)
    (hlo : m "low" = some (.int (a : Nat) t1)) (hhi : m "high" = some (.int (b : Nat) t2)) (hk : m "column" = some (.ref Dk)) (hK : LL g Dk cvs) (hI : IntsAre cvs cs) (hz : cvs.length ≤ 1000) (ha : a ≤ cvs.length) (hb : b ≤ cvs.length) (hpos : 1 ≤ s.toks)
    (hcount : (((cs.take b).drop a).map (fun c => Builtin.bitAnd c 64)).count 0 = nums.count N)
    (h : ∀ s', Kp s s' → Q .next s') :
    wpAny (model prog w) A (exec (((within (st 17 17))[2]?).getD default) (lenv L c1 c2)) Q E s := by
  have G₁ := G.up F.sub
  have hcI := ints_drop (ints_take hI b) a
  refine wpAny_If (wpAny_isTrue_Compare1 (call2F (name := "countOf") (k := 4) (c := 51) (G₁.nameU (fun mg n => n.countOf) ⟨rfl, rfl⟩) (comp_val (cl := []) rfl (by decide +kernel) rfl (by decide +kernel) (sliceK (F.name rfl hk (part_some (F.name rfl hlo (part_some (F.name rfl hhi (part_none ⟨Dk, cvs, some (a : Int), some (b : Int), none, rfl, (hK.up F.sub).is, hz, .int _ _, .int _ _, .none, by decide, fun D s₁ k₁ hD hDn => ?_⟩)))))))))) 
  rw [slice_lohi _ _ _ ha hb] at hD
  have F₁ := F.kp k₁
  refine iter_comp_list (cmc := fun _ => none) (fun i _ tk ys => MadeInts s.toks tk ys ((((cs.take b).drop a).take i).map (fun c => Builtin.bitAnd c 64))) hh k₁ hD.is (by rw [List.length_drop, List.length_take, sizeLine_eq]; omega)
    (fun x c e => by cases e) (fun x c y e => by cases e) (fun c hc => by cases hc) (fun C => rfl) (fun _ _ => by rw [List.take_zero]; exact MadeInts.nil) (fun _ _ _ _ _ _ hj _ ht => hj.mono ht) ?_ ?_
  · rintro E' C X' g' i v ys m' s₂ s₃ hv hm hj hg' F₃ ht₃ hyl
    obtain ⟨c, u, hc, rfl⟩ := ints_at hcI hv
    have G₃ : Glb s₃.heap := G.up fun b o e => F₃.sub _ _ (hg' b o (by simp) (F₁.sub _ _ e))
    refine call2F (name := "and_") (k := 3) (c := 44) (G₃.nameU (fun mg n => n.and_) ⟨rfl, rfl⟩) (F₃.name rfl hm (constI fun s₄ t₄ k₄ _ _ => ⟨(G₃.up k₄.sub).fAnd, call_and (G₃.up k₄.sub) hroom fun y s₅ k₅ hM => ?_⟩))
    obtain ⟨t', rfl, q1, q2⟩ := hM
    refine ⟨k₄.trans k₅, fun g'' _ _ => ?_⟩
    have e : ((cs.take b).drop a).take (i + 1) = ((cs.take b).drop a).take i ++ [c] := by rw [List.take_add_one, hc]; rfl
    rw [e, List.map_append]
    refine ⟨IntsAre.snoc hj.1 _ _, fun i' t'' hm' => ?_⟩
    have h1 := k₁.tok
    have h2 := k₄.tok
    have h3 := k₅.tok
    rcases List.mem_append.mp hm' with hm' | hm'
    · have := hj.2 i' t'' hm'
      exact ⟨this.1, by omega⟩
    · cases List.mem_singleton.mp hm'
      exact ⟨by omega, q2⟩
  · rintro D' g' ys s₂ K₂ hD'n hD' hyl hsub _ hj
    have hlen : ((cs.take b).drop a).take ((cvs.take b).drop a).length = (cs.take b).drop a := by rw [hcI.length, List.take_length]
    rw [hlen] at hj
    have G₂ := G₁.up K₂.sub
    refine constI fun s₃ t₃ k₃ h31 h32 => ?_
    have G₃ := G₂.up k₃.sub
    have hsafe : t₃ ≠ 0 ∧ Safe ys 0 t₃ := by
      have := K₂.tok
      refine ⟨by omega, fun i' t' hm' => ?_⟩
      have := hj.2 i' t' hm'
      exact ⟨fun q => (by have h0 := this.1; rw [q] at h0; exact absurd (Nat.le_trans hpos h0) (by decide)), fun q => (by have h0 := this.2; rw [q] at h0; exact absurd h0 (Nat.not_lt.mpr h31))⟩
    refine ⟨G₃.fCount, call_countOf G₃ hh hroom (hD'.up k₃.sub).is hj.1 hsafe.1 hsafe.2 fun t₄ s₄ k₄ => ?_⟩
    have K4 := (K₂.trans k₃).trans k₄
    have G₄ := G₁.up K4.sub
    have F₄ := F.kp K4
    obtain ⟨hu, hS⟩ := VU.safe (fun _ h => h) hmem
    refine call2F (name := "countOf") (k := 4) (c := 51) (G₄.nameU (fun mg n => n.countOf) ⟨rfl, rfl⟩) (F₄.name rfl hnm (F₄.name rfl hn ⟨G₄.fCount, call_countOf G₄ hh hroom (hN.at fun o e => F₄.sub _ _ e) hU hu hS fun t₅ s₅ k₅ => ?_⟩))
    rw [hcount, zs_count]
    refine PySem.P.ne_int (wpAny_truthy_bool ?_)
    rw [bne_self_eq_false]
    simp only [Bool.false_eq_true, if_false]
    exact wpAny_execs_nil (h s₅ (K4.trans k₅))
end
end Mine
namespace Mine
open PySem PySem.W PyProof.Rows

theorem words_len (nums : List Nat) : nums.length ≤ ((nums.map spelled).flatten).length := by
  induction nums with
  | nil => exact Nat.zero_le _
  | cons n r ih =>
    obtain ⟨hs, t, e, _⟩ := spelled_shape n
    rw [List.map_cons, List.flatten_cons, List.length_append, List.length_cons, e, List.length_append, List.length_singleton]
    omega

/-- nothing that stood has changed -/
def Still (s₀ : Shared) (g : Heap) (s' : Shared) : Prop := (∃ h tk d, s' = { s₀ with heap := h, toks := tk, drawn := d }) ∧ Sub g s'.heap
theorem Still.of {s₀ s' : Shared} {g : Heap} {X : List Addr} {g' : Heap} {env : Env} {m cm : Str → Option Value} {d : Drawn} (F : LF { s₀ with drawn := d } X g' env m cm s') (h : Sub g g') : Still s₀ g s' := by
  obtain ⟨hh, tk, e⟩ := F.same
  exact ⟨⟨hh, tk, d, e⟩, h.trans F.sub⟩
theorem Still.back {s₀ s' : Shared} {g g' : Heap} {d : Drawn} (x : Still { s₀ with drawn := d } g' s') (h : Sub g g') : Still s₀ g s' := by
  obtain ⟨⟨hh, tk, d', e⟩, k⟩ := x
  exact ⟨⟨hh, tk, d', e⟩, h.trans k⟩

section
variable {prog : Program} {w : World} {A : Around} {E : Value → Shared → Prop} {s s₀ : Shared} {X : List Addr} {g : Heap} {m cm : Str → Option Value} {L c1 c2 : Addr} {env : Env}

theorem l17_17 {Dc Dl Dk Dn : Addr} {C nums : List Nat} {vs cvs us : List Value} {rows : List (List Int)} {Q : Flow → Shared → Prop} (G : Glb g) (hh : A.handled = none) (hroom : A.depth < recursionLimit) (F : LF s₀ (LX L c1 c2) g (lenv L c1 c2) m cm s)
    (hc : cm "codes" = some (.ref Dc)) (hD : LL g Dc vs) (hvI : IntsAre vs (zs C)) (hl : m "lesser" = some (.ref Dl)) (hL : LessAt g Dl C) (hk : m "column" = some (.ref Dk)) (hK : LL g Dk cvs) (hI : IntsAre cvs (rows.map lst)) (h64 : C.length < 64) (T : Turned (zs C) rows)
    (V : Vouched cvs) (hmk : ∀ (i : Int) (t : Nat), Value.int i t ∈ cvs → t < s.toks) (hpos : 1 ≤ s.toks)
    (hnm : m "numbers" = some (.ref Dn)) (hN : g.IsList Dn us.toArray) (hU : IntsAre us (zs nums)) (VU : Vouched us)
    (hC : ∀ c ∈ C, c < 128 ∧ c ≠ 64) (hend : ∃ z, C = z ++ [10]) (hw : C = (nums.map spelled).flatten)
    (h : ∀ s', Still s₀ g s' → Q .next s') :
    wpAny (model prog w) A (exec (st 17 17) (lenv L c1 c2)) Q E s := by
  have G₁ := G.up F.sub
  have hvl : vs.length = C.length := hvI.length.trans (List.length_map _)
  have hrl : rows.length = C.length := T.size.trans (List.length_map _)
  have hcl : cvs.length = C.length := hI.length.trans ((List.length_map _).trans hrl)
  have hnl : (zs nums).length < 64 := by
    rw [List.length_map]
    have := words_len nums
    rw [← hw] at this
    omega
  refine wpAny_For (sortedSetK G₁ hh (hN.at fun o e => F.sub _ _ e) hU hnl (fun Q hq => F.name rfl hnm hq) rfl rfl rfl rfl rfl fun D s₁ ws ks k₁ hDn hDl hW _ _ _ hvin _ => ?_)
  obtain ⟨d, kd⟩ := k₁.draws
  have F₀ := F.drew d
  obtain ⟨g₂, F₂, hgg, hg₂⟩ := F₀.grow (LX.live F₀) kd
  have hDg : LL g₂ D ws := let ⟨n, e⟩ := hDl; ⟨n, hg₂ _ _ hDn e⟩
  refine wpAny_pyIter_list hDl.is ?_
  have F₃ := (F₂.more F₂.fresh).kp (Kp.heap (s := s₁) (h := s₁.heap.push { cls := .type "list_iterator", data := .fields #[.ref D, .int 0 0] }) (k := s₁.toks) (fun b o e => Heap.get?_push_of_some _ e) (Nat.le_refl _))
  have htk : s.toks ≤ s₁.toks := kd.tok
  refine for_iter3 (vs := ws) (J := fun i g₁ m₁ => m₁ "numbers" = m "numbers" ∧ m₁ "lesser" = m "lesser" ∧ m₁ "column" = m "column") hh F₃ ⟨_, Heap.get?_push_size _ rfl, rfl, rfl⟩ (.head _) hDg.is rfl ⟨rfl, rfl, rfl⟩ ?_ fun g₁ m₁ s₅ hs _ F₅ _ _ => h s₅ (Still.of F₅ (hgg.trans hs))
  rintro E' i v g₁ m₁ s₅ hv hsub ⟨j1, j2, j3⟩ F₅ hI₅ ht₅ hk₅
  have hsub' := hgg.trans hsub
  have ht5 : s.toks ≤ s₅.toks := Nat.le_trans htk ht₅
  have hvu := hvin v (List.mem_of_getElem? hv)
  obtain ⟨e1, e2⟩ := ints_map hU
  obtain ⟨z, tn, rfl⟩ := e2 v hvu
  have hzm : z ∈ zs nums := by rw [e1]; exact List.mem_map.mpr ⟨_, hvu, rfl⟩
  obtain ⟨N, hNm, rfl⟩ := List.mem_map.mp hzm
  show wpAny (model prog w) A (execs [((within (st 17 17))[0]?).getD default, ((within (st 17 17))[1]?).getD default, ((within (st 17 17))[2]?).getD default] (lenv L c1 c2)) _ _ _
  have alive : ∀ (s₆ : Shared) {m₆ : Str → Option Value} {g₆ : Heap}, LF { s₀ with drawn := d } (s₁.heap.objs.size :: LX L c1 c2) g₆ (lenv L c1 c2) m₆ cm s₆ → (∃ o, s₆.heap.get? s₁.heap.objs.size = some o) → ∀ a ∈ s₁.heap.objs.size :: LX L c1 c2, ∃ o, s₆.heap.get? a = some o := by
    intro s₆ m₆ g₆ F₆ hI a ha
    rcases List.mem_cons.mp ha with q | ha
    · rw [q]; exact hI
    · rcases List.mem_cons.mp ha with q | ha
      · obtain ⟨o, _, _, e, _⟩ := F₆.ns; rw [q]; exact ⟨o, e⟩
      rcases List.mem_cons.mp ha with q | ha
      · obtain ⟨o, e, _⟩ := F₆.cell "codes" c1 rfl; rw [q]; exact ⟨o, e⟩
      · obtain ⟨o, e, _⟩ := F₆.cell "ordered" c2 rfl; rw [List.mem_singleton.mp ha]; exact ⟨o, e⟩
  refine wpAny_execs_cons (lowhigh (G.up hsub') hh F₅ hc (hD.up hsub') (by omega) fun s₆ t u F₆ kb₆ ht₆ => ?_)
  have hIl : s₁.heap.objs.size ≠ (lenv L c1 c2).locals := F₅.notLoc (flds_iter hI₅)
  have hI₆ : ∃ o, s₆.heap.get? s₁.heap.objs.size = some o := by obtain ⟨o, e, _⟩ := hI₅; exact ⟨o, kb₆ _ _ hIl e⟩
  have hcnt := count_law (N := N) hC hend hw T
  refine wpAny_execs_cons (inner_loop (C := C) (rows := rows) (N := N) (tn := tn) (t1 := t) (t2 := u) (Dl := Dl) (Dk := Dk) (Dn := Dn) (G.up hsub') hh hroom F₆ (alive s₆ F₆ hI₆) rfl (j1.trans hnm) rfl (by rw [← hvl]; rfl) (j2.trans hl) (hL.up hsub') (j3.trans hk) (hK.up hsub') hI (by omega) T V (spelled_len hw hNm) (spelled_sub hw hNm)
    (fun i t hm => Nat.lt_of_lt_of_le (hmk i t hm) (Nat.le_trans ht5 ht₆)) (Nat.le_trans hpos (Nat.le_trans ht5 ht₆)) fun s₇ m₇ g₇ t1 t2 F₇ hs₇ q1 q2 q3 q4 q5 q6 kb₇ ht₇ => ?_)
  have hlo' : lo rows (zs (spelled N)) ≤ cvs.length := by rw [hcl, ← hrl]; exact List.countP_le_length
  have hhi'' : hi' rows (zs (spelled N)) ≤ cvs.length := by rw [hcl, ← hrl]; exact List.countP_le_length
  have hsub7 := hsub'.trans hs₇
  refine wpAny_execs_cons (if17 (G.up hsub7) hh hroom F₇ (q1.trans rfl) (q2.trans (j1.trans hnm)) (hN.at fun o e => hsub7 _ _ e) hU hvu VU q5 q6 (q4.trans (j3.trans hk)) (hK.up hsub7) hI (by omega) hlo' hhi'' (Nat.le_trans hpos (Nat.le_trans ht5 (Nat.le_trans ht₆ ht₇))) hcnt fun s₈ k₈ => wpAny_execs_nil ?_)
  exact ⟨g₇, m₇, hs₇, ⟨q2.trans j1, q3.trans j2, q4.trans j3⟩, F₇.kp k₈, (kb₆.trans kb₇).trans (KB.ofSub k₈.sub), Nat.le_trans ht₆ (Nat.le_trans ht₇ k₈.tok)⟩
end
end Mine
namespace Mine
open PySem PySem.W PyProof.Rows

section
variable {prog : Program} {w : World} {A : Around} {E : Value → Shared → Prop} {s s₀ : Shared} {X : List Addr} {g : Heap} {m cm : Str → Option Value} {L c1 c2 : Addr} {env : Env}

theorem law_tail {Dc : Addr} {C : List Nat} {vs : List Value} {Q : Flow → Shared → Prop} (G : Glb g) (hh : A.handled = none) (hroom : A.depth + 1 < recursionLimit) (hun : A.units + 100 < cLine) (hfr : A.frames = some [lenv L c1 c2]) (h0 : 0 < s₀.toks) (F : LF s₀ (LX L c1 c2) g (lenv L c1 c2) m cm s)
    (hc : cm "codes" = some (.ref Dc)) (hD : LL g Dc vs) (hM : MadeInts 1 s.toks vs (zs C)) (hCo : Coh vs) (hC : ∀ c ∈ C, c < 128 ∧ c ≠ 64) (hend : ∃ z, C = z ++ [10]) (h2 : 2 ≤ C.length) (h64 : C.length < 64)
    (h : ∀ s', Still s₀ g s' → Q (.ret (.bool true)) s') :
    wpAny (model prog w) A (execs [st 17 7, st 17 8, st 17 9, st 17 10, st 17 11, st 17 12, st 17 13, st 17 14, st 17 15, st 17 16, st 17 17, st 17 18] (lenv L c1 c2)) Q E s := by
  have hI := hM.1
  have hz : C.length ≤ 1000 := by omega
  have V : Vouched vs := ⟨hCo, fun i t hm => (hM.2 i t hm).1⟩
  obtain ⟨nums, hr, hw⟩ := words C.length C rfl hC (.inr (by obtain ⟨z, e⟩ := hend; exact ⟨z, 10, e, by decide⟩))
  have ht0 : 1 ≤ s.toks := Nat.le_trans h0 F.tok
  refine wpAny_execs_cons (l17_7 G hh hroom hfr F hc hD hI (fun c hcm => (hC c hcm).1) hz hr fun s₁ Dn us g₁ F₁ hs₁ hN hU hUc ht₁ => ?_)
  have VU : Vouched us := ⟨hUc, fun i t hm => Nat.le_trans ht0 (hU.2 i t hm).1⟩
  have D₁ := hD.up hs₁
  refine wpAny_execs_cons (l17_8 (G.up hs₁) hh (by omega) (by omega) F₁ hc D₁ hI rfl hN hU.1 hw hz fun s₂ F₂ ht₂ => ?_)
  refine wpAny_execs_cons (l17_9 (G.up hs₁) hh (by omega) F₂ hc D₁ hI h2 h64 fun s₃ Dt rs rows g₃ F₃ hs₃ hT hrl hR T ht₃ => ?_)
  have hRR : RowsAt g₃ vs rs rows := ⟨hrl, hR⟩
  refine wpAny_execs_cons (l17_10 hh F₃ rfl hT hRR T hz fun s₄ Dk cvs g₄ F₄ hs₄ hK hIk hcv ht₄ => ?_)
  have hs4 := (hs₁.trans hs₃).trans hs₄
  have D₄ := hD.up hs4
  refine wpAny_execs_cons (l17_11 (G.up hs4) F₄ hc D₄ hI h2 h64 fun s₅ Do os ms g₅ F₅ hs₅ hO hOI hp hsrt hin ht₅ => ?_)
  have hs5 := hs4.trans hs₅
  refine wpAny_execs_cons (l17_12 (G.up hs5) hh (by omega) F₅ hc (hD.up hs5) hI h64 rfl hO hOI hp hsrt hin V fun d s₆ Dl g₆ F₆ hs₆ hL ht₆ => ?_)
  have hs6 := hs5.trans hs₆
  refine wpAny_execs_cons (l17_13 (G.up hs6) hh (by omega) hun F₆ hc (hD.up hs6) hI rfl (hT.up ((hs₄.trans hs₅).trans hs₆)) (hRR.up ((hs₄.trans hs₅).trans hs₆)) T fun s₇ tp F₇ ht₇ => ?_)
  refine wpAny_execs_cons (l17_14 F₇ fun s₈ Db g₈ F₈ hs₈ hB ht₈ => ?_)
  have hs8 := hs6.trans hs₈
  have hK8 := hK.up ((hs₅.trans hs₆).trans hs₈)
  refine wpAny_execs_cons (l17_15 (G.up hs8) hh (by omega) F₈ hc (hD.up hs8) hI rfl (hL.up hs₈) rfl hK8 hIk hz T V hcv rfl rfl hB fun s₉ m₉ g₉ Db' bvs F₉ hs₉ q1 q2 q3 q4 hB9 hBI ht₉ => ?_)
  have hs9 := hs8.trans hs₉
  refine wpAny_execs_cons (l17_16 (by omega) F₉ hc (hD.up hs9) hI q4 hB9 hBI ?_)
  have ts : s.toks ≤ s₉.toks := by
    refine Nat.le_trans ht₁ (Nat.le_trans ht₂ (Nat.le_trans ht₃ (Nat.le_trans ht₄ (Nat.le_trans ht₅ (Nat.le_trans ht₆ (Nat.le_trans ht₇ (Nat.le_trans ht₈ ht₉)))))))
  have Vc : Vouched cvs := ⟨fun i j t h1 h2 => V.coh i j t (hcv _ h1) (hcv _ h2), fun i t hm => V.pos i t (hcv _ hm)⟩
  have hs19 : Sub g₁ g₉ := ((((hs₃.trans hs₄).trans hs₅).trans hs₆).trans hs₈).trans hs₉
  refine wpAny_execs_cons (l17_17 (G.up hs9) hh (by omega) F₉ hc (hD.up hs9) hI q1 ((hL.up hs₈).up hs₉) q2 (hK8.up hs₉) hIk h64 T Vc (fun i t hm => Nat.lt_of_lt_of_le (hM.2 i t (hcv _ hm)).2 ts) (Nat.le_trans ht0 ts) (q3.trans rfl) (hN.at fun o e => hs19 _ _ e) hU.1 VU hC hend hw fun s' hst => ?_)
  exact wpAny_execs_cons (l17_18' (h s' (hst.back hs9)))
end
end Mine
namespace Mine
open PySem PySem.W PyProof.Rows PySem.Builtin PySem.Builtin.Str PySem.StrLaws

theorem part_len (b : Str) : ∀ (parts : List Str), ∀ p ∈ parts, p.cps.toList.length ≤ (Str.join b parts).cps.toList.length
  | [p], q, hq => by
    rw [List.mem_singleton.mp hq]
    exact Nat.le_refl _
  | p :: q :: r, x, hx => by
    have e : (Str.join b (p :: q :: r)).cps.toList = p.cps.toList ++ b.cps.toList ++ (Str.join b (q :: r)).cps.toList := by
      show ((p ++ b ++ Str.join b (q :: r)).cps).toList = _
      simp only [Str.cps_append, Array.toList_append]
    rw [e, List.length_append, List.length_append]
    rcases List.mem_cons.mp hx with h | h
    · rw [h]; omega
    · have := part_len b (q :: r) x h
      omega
theorem stuff_ge : ∀ (b : Bool) (l : List Nat), l.length ≤ (stuff b l).length
  | _, [] => Nat.le_refl _
  | b, c :: r => by
    rw [stuff_cons, List.length_append, List.length_cons]
    have := stuff_ge (c == 10) r
    split <;> simp only [List.length_cons, List.length_nil] <;> omega
theorem sent_two (x : List Nat) : 2 ≤ (stuff true (crlfs false (x ++ [13]))).length := by
  obtain ⟨y, e⟩ := crlfs_end x false
  rw [e]
  refine Nat.le_trans ?_ (stuff_ge _ _)
  rw [List.length_append]
  simp
theorem str_len (x : Str) : x.cps.toList.length = x.length := by simp [Str.length]

theorem rows_short {text u v b13 b10 b1310 : Str} (h13 : b13 = ⟨#[13]⟩) (h10 : b10 = ⟨#[10]⟩) (h1310 : b1310.cps.toList = [13, 10])
    (hu : u = Txt.replace text b1310 b10) (hv : v = Txt.replace u b13 b10) : ∀ p ∈ Txt.split v b10, p.cps.toList.length ≤ text.cps.toList.length := by
  have e1 : v.cps.toList = one text.cps.toList := by
    rw [hv, replace_cr h13 (by rw [h10]), hu, replace_crlf h1310 (by rw [h10])]
    rfl
  intro p hp
  have h1 := part_len b10 _ p hp
  subst h10
  rw [join_split, e1] at h1
  unfold one at h1
  rw [List.length_map] at h1
  exact Nat.le_trans h1 (r2_len _ _ rfl)

section
variable {prog : Program} {w : World} {A : Around} {E : Value → Shared → Prop} {s s₀ : Shared} {X : List Addr} {g : Heap} {m cm : Str → Option Value} {L c1 c2 : Addr} {env : Env}

theorem law_body {D : Addr} {vals : List Value} {ns : List Int} {Q : Flow → Shared → Prop} (G : Glb g) (hh : A.handled = none) (hroom : A.depth + 1 < recursionLimit) (hun : A.units + 100 < cLine) (hfr : A.frames = some [lenv L c1 c2]) (h0 : 0 < s₀.toks) (F : LF s₀ (LX L c1 c2) g (lenv L c1 c2) m cm s)
    (hsc : m "script" = some (.ref D)) (hD : g.IsList D vals.toArray) (hI : IntsAre vals ns) (hz : vals.length ≤ 1000)
    (h : ∀ s', Still s₀ g s' → Q (.ret (.bool true)) s') :
    wpAny (model prog w) A (execs (part 17).2.1 (lenv L c1 c2)) Q E s := by
  show wpAny (model prog w) A (execs [st 17 0, st 17 1, st 17 2, st 17 3, st 17 4, st 17 5, st 17 6, st 17 7, st 17 8, st 17 9, st 17 10, st 17 11, st 17 12, st 17 13, st 17 14, st 17 15, st 17 16, st 17 17, st 17 18] (lenv L c1 c2)) Q E s
  refine wpAny_execs_cons (l17_0 F fun s₁ t₁ F₁ ht₁ => ?_)
  refine wpAny_execs_cons (l17_1 G hh F₁ hsc rfl hD hI hz fun s₂ m₂ y u F₂ htx hok hy ht₂ => ?_)
  refine wpAny_execs_cons (l17_2 F₂ htx hy hok fun s₃ x t F₃ hxok hxl hxe ht₃ => ?_)
  refine wpAny_execs_cons (l17_3 G (by omega) F₃ rfl hxl fun s₄ z tz F₄ hzz ht₄ => ?_)
  refine wpAny_execs_cons (l17_4 h0 F₄ (y := x) (u := t) rfl hxl fun s₅ Dr l g₅ F₅ hs₅ hL hl hlen ht₅ => ?_)
  have hpl : ∀ p ∈ l.map (·.1), p.length ≤ 100 := by
    intro p hp
    rw [hl] at hp
    have h1 := rows_short (by decide +kernel) (by decide +kernel) (by decide +kernel) rfl rfl p hp
    rw [str_len, str_len] at h1
    omega
  refine wpAny_execs_cons (l17_5 (G.up hs₅) hh F₅ (z := z) (t := tz) (y := x) rfl rfl hL hl hlen hpl hzz fun s₆ F₆ ht₆ => ?_)
  have hzok : TextOk z.cps.toList := by
    intro c hc
    rw [hzz] at hc
    rcases sent_mem hc with q | q | q | q
    · exact hxok c q
    · subst q; decide
    · subst q; decide
    · subst q; decide
  have hzl : z.length ≤ 40 := by
    rw [← str_len, hzz]
    have := sent_len x.cps.toList
    rw [str_len] at this
    omega
  refine wpAny_execs_cons (l17_6 (G.up hs₅) hh h0 F₆ (z := z) (t := tz) rfl (by omega) hzok fun s₇ Dc vs g₇ F₇ hs₇ hDc hM hCo ht₇ => ?_)
  have hzl' : z.cps.toList.length ≤ 40 := by rw [str_len]; exact hzl
  obtain ⟨xx, hxx⟩ := hxe
  exact law_tail (G.up (hs₅.trans hs₇)) hh hroom hun hfr h0 F₇ rfl hDc hM hCo hzok (by rw [hzz, hxx]; exact sent_end xx) (by rw [hzz, hxx]; exact sent_two xx) (by omega) fun s' hst => h s' (Still.back (s₀ := s₀) (d := s₀.drawn) hst (hs₅.trans hs₇))
end
end Mine
namespace Mine
open PySem PySem.W PyProof.Rows

section
variable {prog : Program} {w : World} {A : Around} {E : Value → Shared → Prop} {s s₀ : Shared} {X : List Addr} {g : Heap} {m cm : Str → Option Value} {L c1 c2 : Addr} {env : Env}

theorem lawLF {L c1 c2 : Addr} {h₀ : Heap} (hL : h₀.get? L = none) (h1 : h₀.get? c1 = none) (h2 : h₀.get? c2 = none) (h12 : c1 ≠ c2) (hn : s.heap.Ns L m) (hk : Sub h₀ s.heap) (hc : ∀ n c, (lenv L c1 c2).cells.lookup n = some c → s.heap.IsCell c (cm n)) :
    LF s (LX L c1 c2) h₀ (lenv L c1 c2) m cm s where
  same := ⟨_, _, rfl⟩
  tok := Nat.le_refl _
  sub := hk
  off := fun a ha => by
    rcases List.mem_cons.mp ha with q | ha
    · rw [q]; exact hL
    rcases List.mem_cons.mp ha with q | ha
    · rw [q]; exact h1
    · rw [List.mem_singleton.mp ha]; exact h2
  ns := hn
  loc := .head _
  cell := hc
  cin := fun n c e => by
    have e' : List.lookup n [(Str.ofString "ordered", c2), (Str.ofString "codes", c1)] = some c := e
    rw [List.lookup_cons] at e'
    split at e'
    · cases e'; exact .tail _ (.tail _ (.head _))
    · rw [List.lookup_cons] at e'
      split at e'
      · cases e'; exact .tail _ (.head _)
      · cases e'
  inj := fun n c n' e e₂ => by
    have e' : List.lookup n [(Str.ofString "ordered", c2), (Str.ofString "codes", c1)] = some c := e
    have e₂' : List.lookup n' [(Str.ofString "ordered", c2), (Str.ofString "codes", c1)] = some c := e₂
    rw [List.lookup_cons] at e' e₂'
    split at e'
    · rename_i q1
      cases e'
      split at e₂'
      · rename_i q2
        rw [eq_of_beq q1, eq_of_beq q2]
      · rw [List.lookup_cons] at e₂'
        split at e₂'
        · cases e₂'; exact absurd rfl h12
        · cases e₂'
    · rw [List.lookup_cons] at e'
      split at e'
      · rename_i q1
        cases e'
        split at e₂'
        · cases e₂'; exact absurd rfl h12
        · rw [List.lookup_cons] at e₂'
          split at e₂'
          · rename_i q2
            rw [eq_of_beq q1, eq_of_beq q2]
          · cases e₂'
      · cases e'
  fn := rfl

theorem call_law {l : Addr} {vals : List Value} {ns : List Int} {Q : Value → Shared → Prop} (G : Glb s.heap) (f : FnAt s.heap 109 "law" 17 108) (hh : A.handled = none) (hroom : A.depth + 2 < recursionLimit) (hun : A.units + 200 < cLine) (hfr : A.frames = some []) (h0 : 0 < s.toks)
    (hl : s.heap.IsList l vals.toArray) (hI : IntsAre vals ns) (hz : vals.length ≤ 1000)
    (h : ∀ s', Still s s.heap s' → Q (.bool true) s') : wpAny (model prog w) A (call (.ref 109) [.ref l]) Q E s := by
  obtain ⟨⟨o, pm, ho, hd⟩, hcd⟩ := f
  refine wpAny_call (codeAny_call_function (by omega) ho hd rfl rfl rfl hcd ?_)
  refine wpAny_of_eq (a := [(Str.ofString "script", Value.ref l)]) rfl ?_
  refine wpAny_with_toks (Nat.le_refl s.toks) (wpAny_newFunctionEnv_cells rfl (fun x hx => by rw [List.mem_singleton.mp hx]; exact .inl rfl) fun env he s' x htk => ?_)
  have he' : env = lenv s.heap.objs.size (s.heap.objs.size + 1) (s.heap.objs.size + 2) := he
  clear he
  subst he'
  refine ⟨G.nolim.keeps x.toInCall.keep, codeAny_func ?_⟩
  have n0 : s.heap.get? s.heap.objs.size = none := Heap.get?_none_of_le (Nat.le_refl _)
  have n1 : s.heap.get? (s.heap.objs.size + 1) = none := Heap.get?_none_of_le (Nat.le_succ _)
  have n2 : s.heap.get? (s.heap.objs.size + 2) = none := Heap.get?_none_of_le (Nat.le_add_right _ _)
  have F := lawLF n0 n1 n2 (Nat.ne_of_lt (Nat.lt_succ_self _)) x.toInCall.ns x.toInCall.keep x.cell
  refine wpAny_mono (law_body (Q := fun f s'' => f = .ret (.bool true) ∧ Still s s.heap s'') (E := fun _ _ => False) G ?_ ?_ ?_ ?_ (Nat.lt_of_lt_of_le h0 htk) F rfl hl hI hz fun s'' hst => ⟨rfl, ?_⟩) (fun fl s'' hq => ?_) fun _ _ e => e.elim
  · exact hh
  · rw [depth_deeper]; omega
  · rw [units_deeper]; omega
  · exact Around.frames_deeper hfr
  · obtain ⟨⟨hh', tk', e⟩, _, _⟩ := x.toInCall
    obtain ⟨⟨h2, tk2, d2, e2⟩, k⟩ := hst
    subst e
    exact ⟨⟨h2, tk2, d2, e2⟩, k⟩
  · obtain ⟨rfl, hst⟩ := hq
    exact h s'' hst
end
end Mine
namespace Mine
open PySem PySem.W PyProof.Rows

theorem good_true {args : List WData} {s₁ s' : Shared} {h₀ : Heap} (hst : Still s₁ s₁.heap s') (hg : s₁.gens = #[]) :
    GoodWG PySem.Challenge.rw_wk0001_01.row.claim (classAt h₀) (ExcName.means h₀) args s₁ (.ok (.ret (.bool true))) s' := by
  obtain ⟨⟨h, tk, d, rfl⟩, k⟩ := hst
  refine ⟨.inl ⟨.bool true, .bool true, [], rfl, fun _ => rfl, .bool _, by kernel_rfl, fun _ => ⟨List.nodup_nil, fun a ha => by cases ha⟩⟩, .of_keep k, rfl, .of_eq hg⟩

theorem fnAt_of {K : Frag} {h : Heap} (X : K.In h) {a c : Addr} {name : Str} {k : Nat} {o : Obj} {pm : Value} (e : K.lookup a = some o) (hd : o.data = .func (fnOf name name (part k).1 (part k).2.1 (part k).2.2 .none .none .none pm none (.ref c) .none)) (hc : codeIn K (.ref c) name = true) : FnAt h a name k c :=
  ⟨⟨o, pm, X _ _ e, hd⟩, codeRec_of X hc⟩
end Mine
open PySem PySem.W PySem.W.X PyProof.Rows
open PySem.W.X PySem.W.ZRun
set_option maxRecDepth 100000 in
set_option maxHeartbeats 0 in
theorem PySem.Challenge.cw_wk0001_01_holds : PySem.Challenge.rw_wk0001_01.Holds := by
  w_on; o_law; z_head
  case hw => w_witness2
  k_fill
  intro w s₀ s₁ mg mb G y fa o pm cd doc dV kV ho hd hcd hD hmg hg args vals as L hpre hlay hrd hwl hlo
  z_open y L KX ZH ZN ZT
  refine Ground.open G ?_
  intro T B D TE TW
  wrow_args hpre hlay hrd hwl hlo
  obtain ⟨hat, hsz⟩ := script_at L
  have htk := script_toks L ZT
  rw [ZN] at hat hsz
  subst hat
  x_fa T KX hmg
  rename_i ns _ _ _ _ _ _ _ vs _ _ hI _ hlen _ hls _ _
  have hz : vs.length ≤ 1000 := by
    have := hI.length
    omega
  have f : Mine.FnAt s₁.heap 109 "law" 17 108 := Mine.fnAt_of (pm := _) KX rfl rfl rfl
  obtain ⟨mc, hmc, hlim⟩ := T.nolimit
  have GL : Mine.Glb s₁.heap := {
    stat := ⟨mc, hmc, hlim, ns_none_of KX hmc (by rfl)⟩
    glob := ⟨mg, T.g, {
      add := mg_of KX T.g (by rfl)
      and_ := mg_of KX T.g (by rfl)
      countOf := mg_of KX T.g (by rfl)
      getitem := mg_of KX T.g (by rfl)
      indexOf := mg_of KX T.g (by rfl)
      parse := mg_of KX T.g (by rfl)
      re1 := mg_of KX T.g (by rfl)
      re2 := mg_of KX T.g (by rfl)
      crlf := ⟨_, mg_of KX T.g (by rfl)⟩
      quote := mg_of KX T.g (by rfl)
      read := mg_of KX T.g (by rfl)
      spell := mg_of KX T.g (by rfl)
      none := fun x hx => by
        simp only [List.mem_cons, List.not_mem_nil, or_false] at hx
        rcases hx with rfl | rfl | rfl | rfl | rfl | rfl | rfl | rfl | rfl | rfl | rfl <;> exact ns_none_of KX T.g (by rfl) }⟩
    blt := ⟨mb, T.b, T.builtins⟩
    fAdd := Mine.fnAt_of (pm := _) KX rfl rfl rfl
    fAnd := Mine.fnAt_of (pm := _) KX rfl rfl rfl
    fCount := Mine.fnAt_of (pm := _) KX rfl rfl rfl
    fGet := Mine.fnAt_of (pm := _) KX rfl rfl rfl
    fIndex := Mine.fnAt_of (pm := _) KX rfl rfl rfl
    fParse := Mine.fnAt_of (pm := _) KX rfl rfl rfl
    fQuote := Mine.fnAt_of (pm := _) KX rfl rfl rfl
    fRead := Mine.fnAt_of (pm := _) KX rfl rfl rfl
    fSpell := Mine.fnAt_of (pm := _) KX rfl rfl rfl
    pat1 := ⟨_, _, _, KX 78 _ rfl, rfl, rfl, rfl⟩
    pat2 := ⟨_, _, _, KX 83 _ rfl, rfl, rfl, rfl⟩
    code1 := ⟨_, 0, KX 77 _ rfl, by kernel_rfl⟩
    code2 := ⟨_, 0, KX 82 _ rfl, by kernel_rfl⟩ }
  refine Mine.call_law GL f rfl (by decide) (by decide) rfl (Nat.lt_of_lt_of_le (by decide) htk) hls hI hz fun s' hst => Mine.good_true hst hg
