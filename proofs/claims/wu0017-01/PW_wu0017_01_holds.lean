import PyProof.Rows.All
import Wide.All
import OpenK.AllK
import Wide.FinOn
import Lean
import PySem.Challenge.RW_wu0017_01
set_option Elab.async false

section
open PySem PySem.W PyProof.Rows PySem.Calls
set_option Elab.async false
set_option maxRecDepth 100000
set_option maxHeartbeats 4000000
namespace Mine
open_top hd for PySem.Challenge.rw_wu0017_01

/-! ## the top's own objects -/
noncomputable abbrev KK (w : World) : Frag := hd.heap_39 w.params
def P0 : Params := { strHash := fun _ => 0, shareClass := fun _ => 0, mergeTok := id, idOf := fun _ => 0, idOfShared := fun _ _ => 0, followText := fun _ => false, idOfImm := fun _ => 0 }
noncomputable def fd (a : Addr) : FuncData := match (hd.heap_39 P0).lookup a with
  | some o => (match o.data with | .func f => f | _ => default)
  | none => default
noncomputable def bod (a : Addr) : List Stmt := match (fd a).body with
  | .stmts b => b
  | _ => []

def gl : List (Str × Option Value) := [("_strxfrm", some (.ref 21)), ("_build_localename", some (.ref 28)), ("insort_left", some (.ref 37)), ("bisect_left", some (.ref 46)),
  ("and_", some (.ref 53)), ("iadd", some (.ref 60)), ("isub", some (.ref 67)), ("_law_word", some (.ref 72)), ("_law_repeats", some (.ref 79)), ("_law_parts", some (.ref 86)),
  ("len", none), ("range", none), ("min", none), ("sum", none), ("sorted", none)]
def bl : List (Str × Value) := [("len", .builtin "len"), ("range", .type "range"), ("min", .builtin "min"), ("sum", .builtin "sum"), ("sorted", .builtin "sorted")]

structure SC (w : World) (h : Heap) : Prop where
  K : (KK w).In h
  nolimit : h.NoLimit
  g : ∃ mg, h.Ns mainGlobals mg ∧ ∀ p ∈ gl, mg p.1 = p.2
  b : ∃ mb, h.Ns builtinsNs mb ∧ ∀ p ∈ bl, mb p.1 = some p.2
theorem SC.keeps {w : World} {h h' : Heap} (c : SC w h) (k : ∀ b o, h.get? b = some o → h'.get? b = some o) : SC w h' :=
  ⟨c.K.keeps k, c.nolimit.keeps k, let ⟨mg, a, b⟩ := c.g; ⟨mg, a.keeps k, b⟩, let ⟨mb, a, b⟩ := c.b; ⟨mb, a.keeps k, b⟩⟩

structure AOk (A : Around) (k : Nat) : Prop where
  hh : A.handled = none
  hd : A.depth + k < recursionLimit
  hu : A.units + 4 * k < cLine
theorem AOk.deeper {A : Around} {k : Nat} (x : AOk A (k + 1)) (env : Env) : AOk (A.deeper env) k :=
  ⟨x.hh, by have := x.hd; show A.depth + 1 + k < _; omega, by have := x.hu; show A.units + 3 + 4 * k < _; omega⟩
theorem AOk.mono {A : Around} {k j : Nat} (x : AOk A k) (h : j ≤ k) : AOk A j := ⟨x.hh, by have := x.hd; omega, by have := x.hu; omega⟩
theorem AOk.room {A : Around} {k : Nat} (x : AOk A k) : A.depth < recursionLimit := by have := x.hd; omega
theorem AOk.units {A : Around} {k : Nat} (x : AOk A (k + 1)) : A.units < cLine := by have := x.hu; omega

/-! ## what a piece leaves -/
def KB (W : List Addr) (h h' : Heap) : Prop := ∀ b o, b ∉ W → h.get? b = some o → h'.get? b = some o
theorem KB.refl (W : List Addr) (h : Heap) : KB W h h := fun _ _ _ e => e
theorem KB.trans {W : List Addr} {h h' h'' : Heap} (x : KB W h h') (y : KB W h' h'') : KB W h h'' := fun b o n e => y b o n (x b o n e)
theorem KB.mono {W V : List Addr} {h h' : Heap} (x : KB W h h') (s : ∀ b ∈ W, b ∈ V) : KB V h h' := fun b o n e => x b o (fun m => n (s b m)) e
theorem KB.of {W : List Addr} {h h' : Heap} (k : ∀ b o, h.get? b = some o → h'.get? b = some o) : KB W h h' := fun b o _ e => k b o e
theorem KB.all {h h' : Heap} (x : KB [] h h') : ∀ b o, h.get? b = some o → h'.get? b = some o := fun b o e => x b o (by simp) e
theorem KB.same {W : List Addr} {L : Addr} {h h' : Heap} (s : Heap.SameBut L h h') (m : L ∈ W) : KB W h h' := fun b o n e => s.extBut b o (fun q => n (q ▸ m)) e
theorem KB.push {W : List Addr} {h : Heap} (o : Obj) : KB W h (h.push o) := fun _ _ _ e => Heap.get?_push_of_some _ e
theorem KB.list {W : List Addr} {h h' : Heap} {a : Addr} {vs : Array Value} (x : KB W h h') (l : h.IsList a vs) (n : a ∉ W) : h'.IsList a vs := l.at fun o e => x a o n e
theorem KB.plain {W : List Addr} {h h' : Heap} {a : Addr} {vs : Array Value} (x : KB W h h') (l : h.PlainList a vs) (n : a ∉ W) : h'.PlainList a vs := l.at fun o e => x a o n e
theorem KB.ns {W : List Addr} {h h' : Heap} {a : Addr} {m : Str → Option Value} (x : KB W h h') (l : h.Ns a m) (n : a ∉ W) : h'.Ns a m := l.at' fun o e => x a o n e
theorem KB.cell {W : List Addr} {h h' : Heap} {a : Addr} {v : Option Value} (x : KB W h h') (l : h.IsCell a v) (n : a ∉ W) : h'.IsCell a v :=
  let ⟨o, e, d⟩ := l; ⟨o, x a o n e, d⟩

/-- the pieces of a state -/
def Goes (W : List Addr) (s s' : Shared) : Prop := ∃ h' tk, s' = { s with heap := h', toks := tk } ∧ KB W s.heap h'
theorem Goes.refl (W : List Addr) (s : Shared) : Goes W s s := ⟨s.heap, s.toks, rfl, KB.refl _ _⟩
theorem Goes.trans {W : List Addr} {s s' s'' : Shared} (x : Goes W s s') (y : Goes W s' s'') : Goes W s s'' := by
  obtain ⟨h, t, rfl, a⟩ := x
  obtain ⟨h', t', rfl, b⟩ := y
  exact ⟨h', t', rfl, a.trans b⟩
theorem Goes.mono {W V : List Addr} {s s' : Shared} (x : Goes W s s') (m : ∀ b ∈ W, b ∈ V) : Goes V s s' := by
  obtain ⟨h, t, rfl, a⟩ := x
  exact ⟨h, t, rfl, a.mono m⟩
theorem Goes.kb {W : List Addr} {s s' : Shared} (x : Goes W s s') : KB W s.heap s'.heap := by
  obtain ⟨h, t, rfl, a⟩ := x; exact a
theorem Goes.of {W : List Addr} {s : Shared} {h' : Heap} {tk : Nat} (k : KB W s.heap h') : Goes W s { s with heap := h', toks := tk } := ⟨h', tk, rfl, k⟩
theorem Goes.loc {s s' s'' : Shared} {L : Addr} (hL : s.heap.get? L = none) (x : Goes [] s s') (y : Goes [L] s' s'') : Goes [] s s'' := by
  obtain ⟨h, t, rfl, a⟩ := x
  obtain ⟨h', t', rfl, b⟩ := y
  exact ⟨h', t', rfl, fun c o _ e => b c o (fun q => by rw [List.mem_singleton.mp q, hL] at e; cases e) (a.all c o e)⟩
theorem Goes.keeps {s s' : Shared} (x : Goes [] s s') : Keeps s s' := by
  obtain ⟨h, t, rfl, a⟩ := x; exact ⟨h, t, rfl, a.all⟩
theorem Goes.ofKeeps {W : List Addr} {s s' : Shared} (x : Keeps s s') : Goes W s s' := by
  obtain ⟨h, t, rfl, a⟩ := x; exact ⟨h, t, rfl, KB.of a⟩

/-! ## names -/
def up (m : Str → Option Value) (x : Str) (v : Value) : Str → Option Value := fun y => if y = x then some v else m y
theorem up_same {m : Str → Option Value} {x : Str} {v : Value} : up m x v x = some v := if_pos rfl
theorem up_ne {m : Str → Option Value} {x y : Str} {v : Value} (h : decide (y = x) = false) : up m x v y = m y := if_neg (of_decide_eq_false h)
theorem up_else {m : Str → Option Value} {x y : Str} {v : Value} {r : Option Value} (h : decide (y = x) = false) (e : m y = r) : up m x v y = r := (up_ne h).trans e

section
variable {M : Model} {A : Around} {E : Value → Shared → Prop} {s : Shared} {env : Env} {L : Addr} {m : Str → Option Value} {x : Str} {pos : Pos} {v : Value} {w : World}
theorem nmL {Q : Value → Shared → Prop} (n : s.heap.Ns env.locals m) (hv : m x = some v) (h : Q v s) (hk : env.scope.kind = .function) (hx : env.kindOf x = some .local) (hd : (x == ("__debug__" : Str)) = false) :
    wpAny M A (eval (.Name x pos) env) Q E s := wpAny_Name (wpAny_loadName_local hk hx n hv h) hd
theorem nmC {Q : Value → Shared → Prop} {c : Addr} (hc : env.cells.lookup x = some c) (n : s.heap.IsCell c (some v)) (h : Q v s) (hk : env.scope.kind = .function) (hx : env.kindOf x = some .cell) (hd : (x == ("__debug__" : Str)) = false) :
    wpAny M A (eval (.Name x pos) env) Q E s := wpAny_Name (wpAny_loadName_cell hk hx hc n h) hd
theorem nmG {Q : Value → Shared → Prop} (c : SC w s.heap) (hm : (x, some v) ∈ gl) (h : Q v s) (hg : env.globals = mainGlobals) (hk : env.scope.kind = .function) (hx : env.kindOf x = some .globalImplicit) (hd : (x == ("__debug__" : Str)) = false) :
    wpAny M A (eval (.Name x pos) env) Q E s := by
  obtain ⟨mg, a, b⟩ := c.g
  exact Name_function_global hk hx (loadGlobal_global (env := env) (hg ▸ a) (b _ hm) h) hd
theorem nmB {Q : Value → Shared → Prop} (c : SC w s.heap) (hm : (x, none) ∈ gl) (hb : (x, v) ∈ bl) (h : Q v s) (hg : env.globals = mainGlobals) (hbi : env.builtins = builtinsNs) (hk : env.scope.kind = .function) (hx : env.kindOf x = some .globalImplicit) (hd : (x == ("__debug__" : Str)) = false) :
    wpAny M A (eval (.Name x pos) env) Q E s := by
  obtain ⟨mg, a, b⟩ := c.g
  obtain ⟨mb, a', b'⟩ := c.b
  exact Name_function_global hk hx (loadGlobal_builtin (env := env) (hg ▸ a) (b _ hm) (hbi ▸ a') (b' _ hb) h) hd
theorem stL {Q : Unit → Shared → Prop} (n : s.heap.Ns env.locals m)
    (h : ∀ s', s'.heap.Ns env.locals (up m x v) → Goes [env.locals] s s' → Q () s')
    (hk : env.scope.kind = .function) (hx : env.kindOf x = some .local) : wpAny M A (storeName env x v) Q E s :=
  wpAny_storeName_local hx n (fun _ hn hs => h _ hn (Goes.of (KB.same hs (List.mem_singleton.mpr rfl)))) (by rw [hk]; rfl)
theorem stC {Q : Unit → Shared → Prop} {c : Addr} {v₀ : Option Value} (hc : env.cells.lookup x = some c) (n : s.heap.IsCell c v₀)
    (h : ∀ s', s'.heap.IsCell c (some v) → Goes [c] s s' → Q () s')
    (hk : env.scope.kind = .function) (hx : env.kindOf x = some .cell) : wpAny M A (storeName env x v) Q E s :=
  wpAny_storeName_cell hk hx hc n fun _ hn hs => h _ hn (Goes.of (KB.same hs (List.mem_singleton.mpr rfl)))
end

/-! ## calls of the text's defs -/
section
variable {prog : Program} {w : World} {A : Around} {E : Value → Shared → Prop} {s : Shared}
theorem callFd {Q : Value → Shared → Prop} {args : List Value} {kw : List (Str × Value)} {binds : List (Str × Value)} {k : Nat} (a : Addr) (c : SC w s.heap) (ok : AOk A (k + 1))
    (hl : (KK w).lookup a = some { cls := .type "function", data := .func (fd a) }) (hcd : codeIn (KK w) (fd a).code (fd a).qualname = true) (hb : (fd a).body = .stmts (bod a))
    (hbind : BindsTo s (fd a) ⟨args, kw⟩ binds) (hcell : ∀ x ∈ (fd a).scope.names, x.2 ≠ .cell) (hloc : ∀ x ∈ binds, (fd a).scope.names.lookup x.1 = some .local)
    (h : ∀ L s₁ m, s.heap.get? L = none → Goes [] s s₁ → s₁.heap.Ns L m → (∀ x, m x = binds.reverse.lookup x) → AOk (A.deeper (callEnv (fd a) L a)) k →
      wpAny (model prog w) (A.deeper (callEnv (fd a) L a)) (execs (bod a) (callEnv (fd a) L a)) (fun f s' => Q (match f with | .ret v => v | _ => .none) s') (fun _ _ => False) s₁)
    (hco : (fd a).scope.isCoroutine = false) (hgen : (fd a).scope.isGenerator = false) (hk : (fd a).scope.kind = .function) :
    wpAny (model prog w) A (call (.ref a) args kw) Q E s := by
  refine wpAny_call (codeAny_call_def ok.room (c.K _ _ hl) rfl c.nolimit (codeRec_of c.K hcd) hb hbind hcell hloc (fun h₁ hns hk₁ => ?_) hco hgen hk)
  have hn : s.heap.get? s.heap.objs.size = none := by
    cases e : s.heap.get? s.heap.objs.size with
    | none => rfl
    | some o => exact absurd (Heap.lt_size e) (Nat.lt_irrefl _)
  exact wpAny_mono (h _ _ _ hn (Goes.of (KB.of hk₁)) hns (fun _ => rfl) (ok.deeper _)) (fun f s' q => q) fun _ _ x => x.elim
end

/-! ## a for over a list or a range -/
/-- all but the iterators -/
def KF (h h' : Heap) : Prop := ∀ b o, h.get? b = some o → (∀ vs, o.data ≠ .fields vs) → h'.get? b = some o
theorem KF.list {h h' : Heap} {a : Addr} {vs : Array Value} (x : KF h h') (l : h.IsList a vs) : h'.IsList a vs := by
  obtain ⟨o, e, c, n, d⟩ := l
  exact ⟨o, x a o e (by rw [d]; intro _ q; cases q), c, n, d⟩
theorem KF.plain {h h' : Heap} {a : Addr} {vs : Array Value} (x : KF h h') (l : h.PlainList a vs) : h'.PlainList a vs := by
  obtain ⟨n, e⟩ := l
  exact ⟨n, x a _ e (by intro _ q; cases q)⟩
theorem KF.ns {h h' : Heap} {a : Addr} {m : Str → Option Value} (x : KF h h') (l : h.Ns a m) : h'.Ns a m := by
  obtain ⟨o, es, ep, e, d, r⟩ := l
  exact ⟨o, es, ep, x a o e (by rw [d]; intro _ q; cases q), d, r⟩
theorem KF.cell {h h' : Heap} {a : Addr} {v : Option Value} (x : KF h h') (l : h.IsCell a v) : h'.IsCell a v := by
  obtain ⟨o, e, d⟩ := l
  exact ⟨o, x a o e (by rw [d]; intro _ q; cases q), d⟩

section
variable {prog : Program} {w : World} {A : Around} {E : Value → Shared → Prop} {s : Shared} {env : Env} {x : Str} {px pos : Pos} {iter : Expr} {body : List Stmt} {Q : Flow → Shared → Prop}

theorem forLoop_walk {I : Addr} {fp : List Addr} {n : Nat} {P : Nat → Value → Prop} {St : Nat → Heap → Prop} {R : Result → Shared → Prop} (W : List Addr) (J : Nat → Heap → Prop)
    (wk : Walks prog w A I fp [I] n P St) (hI : ∀ i h, St i h → ∃ o vs, h.get? I = some o ∧ o.data = .fields vs) (st : St 0 s.heap) (hIW : I ∉ W) (hfp : ∀ b ∈ fp, b ∉ W) (g : Heap) (hgI : g.get? I = none) (hg : KB W g s.heap)
    (j : J 0 s.heap) (stab : ∀ i h h', J i h → KF h h' → J i h')
    (turn : ∀ i v h tk E', i < n → P i v → J i h → KB W g h → wpAny (model prog w) A (storeName env x v) (fun _ s₂ => wpAny (model prog w) A (execs body env) (fun f s₃ => match f with
        | .next => Goes W { s with heap := h, toks := tk } s₃ ∧ J (i + 1) s₃.heap
        | .cont => Goes W { s with heap := h, toks := tk } s₃ ∧ J (i + 1) s₃.heap
        | .brk => R (.ok .next) s₃
        | .ret v => R (.ok (.ret v)) s₃) E' s₂) E' { s with heap := h, toks := tk })
    (done : ∀ h tk, J n h → KB W g h → R (.ok .next) { s with heap := h, toks := tk }) :
    codeAny (model prog w) A (.forLoop (.Name x px) (.ref I) body [] env) R s := by
  refine codeAny_forLoop (fun k s' => ∃ h tk i, s' = { s with heap := h, toks := tk } ∧ St i h ∧ J i h ∧ KB W g h ∧ i ≤ n ∧ k = n - i) ?_ n ⟨s.heap, s.toks, 0, rfl, st, j, hg, Nat.zero_le _, rfl⟩
  rintro k s' ⟨h, tk, i, rfl, st, j, kb, hi, rfl⟩
  have key : ∀ {h' : Heap}, (∀ b o, b ∉ [I] → h.get? b = some o → h'.get? b = some o) → KF h h' ∧ KB W g h' := fun {h'} k => by
    obtain ⟨oI, vs, eI, dI⟩ := hI _ _ st
    refine ⟨fun b o e nf => k b o (fun q => ?_) e, fun b o nb e => k b o (fun q => ?_) (kb b o nb e)⟩
    · rw [List.mem_singleton.mp q, eI] at e; cases e; exact nf vs dI
    · rw [List.mem_singleton.mp q, hgI] at e; cases e
  by_cases hlt : i < n
  · refine wk.item i _ _ _ hlt st fun v h' tk' hP st' k' => ?_
    obtain ⟨k1, k2⟩ := key k'
    refine wpAny_assign_Name ?_
    refine wpAny_mono (turn i v h' tk' _ hlt hP (stab _ _ _ j k1) k2) (fun _ s₂ h₂ => ?_) fun _ _ e => e
    refine wpAny_mono h₂ (fun f s₃ h₃ => ?_) fun _ _ e => e
    have fin : Goes W { s with heap := h', toks := tk' } s₃ ∧ J (i + 1) s₃.heap → ∃ m, m < n - i ∧ ∃ h tk i, s₃ = { s with heap := h, toks := tk } ∧ St i h ∧ J i h ∧ KB W g h ∧ i ≤ n ∧ m = n - i := by
      rintro ⟨⟨hz, tk₃, rfl, kb₃⟩, j₃⟩
      exact ⟨n - (i + 1), by omega, hz, tk₃, i + 1, rfl, wk.frame _ _ _ st' fun b hb o e => kb₃ b o (hfp b hb) e, j₃, k2.trans kb₃, hlt, rfl⟩
    cases f with
    | next => exact fin h₃
    | cont => exact fin h₃
    | brk => exact h₃
    | ret v => exact h₃
  · obtain rfl : i = n := Nat.le_antisymm hi (Nat.not_lt.mp hlt)
    refine wk.done _ _ _ st fun h' tk' k' => ?_
    obtain ⟨k1, k2⟩ := key k'
    exact wpAny_execs_nil (done h' tk' (stab _ _ _ j k1) k2)

/-- the end of a turn -/
def Turn (W : List Addr) (J : Heap → Prop) (Q : Flow → Shared → Prop) (s : Shared) (f : Flow) (s' : Shared) : Prop := match f with
  | .next => Goes W s s' ∧ J s'.heap
  | .cont => Goes W s s' ∧ J s'.heap
  | .brk => Q .next s'
  | .ret v => Q (.ret v) s'

theorem forList {l : Addr} {items : Array Value} (W : List Addr) (J : Nat → Heap → Prop) (hh : A.handled = none)
    (hi : wpAny (model prog w) A (eval iter env) (fun v s₁ => v = .ref l ∧ Goes [] s s₁) E s)
    (hl : s.heap.IsList l items) (hlW : l ∉ W) (hW : ∀ b ∈ W, ∃ o, s.heap.get? b = some o) (j : J 0 s.heap) (stab : ∀ i h h', J i h → KF h h' → J i h')
    (turn : ∀ i v s₁ E', items[i]? = some v → J i s₁.heap → Goes W s s₁ → wpAny (model prog w) A (storeName env x v) (fun _ s₂ => wpAny (model prog w) A (execs body env) (Turn W (J (i + 1)) Q s₁) E' s₂) E' s₁)
    (done : ∀ s₁, J items.size s₁.heap → Goes W s s₁ → Q .next s₁)
    (hs : ∀ x, foldedSetIterable iter env x = pure x := by intro _; rfl) :
    wpAny (model prog w) A (exec (.For (.Name x px) iter body [] pos) env) Q E s := by
  refine wpAny_For (wpAny_mono hi (fun v s₁ h₁ => ?_) fun _ _ e => e) hs
  obtain ⟨rfl, ⟨h, tk, rfl, kb⟩⟩ := h₁
  refine wpAny_pyIter_list (kb.list hl (by simp)) ?_
  have lt : ∀ b o, s.heap.get? b = some o → b < h.objs.size := fun b o e => Heap.lt_size (kb.all b o e)
  obtain ⟨ol, el, _⟩ := id hl
  have hn : s.heap.get? h.objs.size = none := by
    cases e : s.heap.get? h.objs.size with
    | none => rfl
    | some o => exact absurd (lt _ o e) (Nat.lt_irrefl _)
  have hIW : h.objs.size ∉ W := fun q => by obtain ⟨o, e⟩ := hW _ q; exact Nat.lt_irrefl _ (lt _ _ e)
  refine forLoop_walk (s := { heap := h.push { cls := .type "list_iterator", data := .fields #[.ref l, .int 0 0] }, gens := s.gens, drawn := s.drawn, toks := tk, os := s.os }) W J (Walks.list hh h.objs.size l (Nat.ne_of_lt (lt _ _ el)) items)
    (fun i h st => by obtain ⟨o, e, _, d⟩ := st.1; exact ⟨o, _, e, d⟩) ⟨⟨_, Heap.get?_push_size _ rfl, rfl, rfl⟩, (kb.list hl (by simp)).push _⟩ hIW ?_ s.heap hn ((KB.of kb.all).trans (KB.push _)) (stab _ _ _ j fun b o e _ => Heap.get?_push_of_some _ (kb.all b o e)) stab ?_ ?_
  · intro b hb
    rcases List.mem_cons.mp hb with rfl | hb
    · exact hIW
    · rw [List.mem_singleton.mp hb]; exact hlW
  · intro i v h tk' E' _ hP hJ kb
    refine wpAny_mono (turn i v _ E' hP hJ (Goes.of kb)) (fun _ s₂ h₂ => wpAny_mono h₂ (fun f s₃ h₃ => ?_) fun _ _ e => e) fun _ _ e => e
    cases f <;> exact h₃
  · exact fun h tk' hJ kb => done _ hJ (Goes.of kb)

theorem forRange {n : Nat} (W : List Addr) (J : Nat → Heap → Prop) (hh : A.handled = none) (hn : n < 2 ^ 60)
    (hi : wpAny (model prog w) A (eval iter env) (fun v s₁ => ∃ r, v = .ref r ∧ Goes [] s s₁ ∧ ∃ t u z, IsRange s₁.heap r 0 n 1 t u z) E s)
    (hW : ∀ b ∈ W, ∃ o, s.heap.get? b = some o) (j : J 0 s.heap) (stab : ∀ i h h', J i h → KF h h' → J i h')
    (turn : ∀ i t s₁ E', i < n → J i s₁.heap → Goes W s s₁ → wpAny (model prog w) A (storeName env x (.int (i : Int) t)) (fun _ s₂ => wpAny (model prog w) A (execs body env) (Turn W (J (i + 1)) Q s₁) E' s₂) E' s₁)
    (done : ∀ s₁, J n s₁.heap → Goes W s s₁ → Q .next s₁)
    (hs : ∀ x, foldedSetIterable iter env x = pure x := by intro _; rfl) :
    wpAny (model prog w) A (exec (.For (.Name x px) iter body [] pos) env) Q E s := by
  refine wpAny_For (wpAny_mono hi (fun v s₁ h₁ => ?_) fun _ _ e => e) hs
  obtain ⟨r, rfl, ⟨h, tk, rfl, kb⟩, t, u, z, hr⟩ := h₁
  have hsz : Builtin.Range.rangeSize 0 (n : Int) 1 = (n : Int) := by
    simp [Builtin.Range.rangeSize]
    omega
  have hsm : Builtin.Range.small 0 (n : Int) 1 = true := by
    have hf : ∀ k : Int, 0 ≤ k → k ≤ 2 ^ 60 → Builtin.Range.rangeFitsLong k = true := by
      intro k h0 h1
      simp [Builtin.Range.rangeFitsLong]
      omega
    unfold Builtin.Range.small
    rw [hsz, hf 0 (by omega) (by omega), hf n (by omega) (by omega), hf 1 (by omega) (by omega)]
    simp
    right
    exact hf n (by omega) (by omega)
  refine wpAny_pyIter_range hr hsm ?_
  have lt : ∀ b o, s.heap.get? b = some o → b < h.objs.size := fun b o e => Heap.lt_size (kb.all b o e)
  have hn' : s.heap.get? h.objs.size = none := by
    cases e : s.heap.get? h.objs.size with
    | none => rfl
    | some o => exact absurd (lt _ o e) (Nat.lt_irrefl _)
  have hIW : h.objs.size ∉ W := fun q => by obtain ⟨o, e⟩ := hW _ q; exact Nat.lt_irrefl _ (lt _ _ e)
  refine forLoop_walk (s := { heap := h.push { cls := .type "range_iterator", data := .fields #[rawInt 0, rawInt (Builtin.Range.rangeSize 0 (n : Int) 1), rawInt 1] }, gens := s.gens, drawn := s.drawn, toks := tk, os := s.os }) W J (LCg.range_walks hh 0 n)
    (fun i h st => by have st' : h.get? _ = some _ := st; exact ⟨_, _, st', rfl⟩) ?_ hIW ?_ s.heap hn' ((KB.of kb.all).trans (KB.push _)) (stab _ _ _ j fun b o e _ => Heap.get?_push_of_some _ (kb.all b o e)) stab ?_ ?_
  · show IsRangeIter _ _ _ _ _
    rw [hsz]
    simpa using Heap.get?_push_size _ rfl
  · intro b hb
    rw [List.mem_singleton.mp hb]; exact hIW
  · intro i v h' tk' E' hi' hP hJ kb'
    obtain ⟨t', rfl⟩ := hP
    rw [Int.zero_add]
    refine wpAny_mono (turn i t' _ E' hi' hJ (Goes.of kb')) (fun _ s₂ h₂ => wpAny_mono h₂ (fun f s₃ h₃ => ?_) fun _ _ e => e) fun _ _ e => e
    cases f <;> exact h₃
  · exact fun h tk' hJ kb => done _ hJ (Goes.of kb)

/-! ## a while -/
theorem whileInv {test : Expr} (W : List Addr) (J : Nat → Heap → Prop) (n : Nat) (j : J n s.heap)
    (turn : ∀ n s₁ E', J n s₁.heap → Goes W s s₁ → wpAny (model prog w) A (PySem.isTrue test env (eval test env)) (fun b s₂ => if b = true then
        wpAny (model prog w) A (execs body env) (Turn W (fun h' => ∃ m, m < n ∧ J m h') Q s₁) E' s₂
      else Q .next s₂) E' s₁) :
    wpAny (model prog w) A (exec (.While test body [] pos) env) Q E s := by
  refine wpAny_While (codeAny_whileLoop (fun k s' => ∃ h tk, s' = { s with heap := h, toks := tk } ∧ J k h ∧ KB W s.heap h) ?_ n ⟨s.heap, s.toks, rfl, j, KB.refl _ _⟩)
  rintro k s' ⟨h, tk, rfl, j, kb⟩
  refine wpAny_mono (turn k _ _ j (Goes.of kb)) (fun b s₂ h₂ => ?_) fun _ _ e => e
  cases b with
  | false => exact wpAny_execs_nil h₂
  | true =>
    simp only [if_true] at h₂ ⊢
    refine wpAny_mono h₂ (fun f s₃ h₃ => ?_) fun _ _ e => e
    have fin : Goes W { s with heap := h, toks := tk } s₃ ∧ (∃ m, m < k ∧ J m s₃.heap) → ∃ m, m < k ∧ ∃ h tk, s₃ = { s with heap := h, toks := tk } ∧ J m h ∧ KB W s.heap h := by
      rintro ⟨⟨hz, tk₃, rfl, kb₃⟩, m, hm, j₃⟩
      exact ⟨m, hm, hz, tk₃, rfl, j₃, kb.trans kb₃⟩
    cases f with
    | next => exact fin h₃
    | cont => exact fin h₃
    | brk => exact h₃
    | ret v => exact h₃
end
end Mine
end

section
open PySem PySem.W PyProof.Rows PySem.Calls
set_option Elab.async false
set_option maxRecDepth 100000
set_option maxHeartbeats 4000000
namespace Mine
local macro_rules | `(tactic| walk_at "sd") => `(tactic| first | kernel_rfl | decide | rfl)
theorem free_size (h : Heap) : h.get? h.objs.size = none := by
  cases e : h.get? h.objs.size with
  | none => rfl
  | some o => exact absurd (Heap.lt_size e) (Nat.lt_irrefl _)
theorem Goes.sc {w : World} {s s' : Shared} (g : Goes [] s s') (c : SC w s.heap) : SC w s'.heap := c.keeps g.kb.all
theorem Goes.list {s s' : Shared} {a : Addr} {vs : Array Value} (g : Goes [] s s') (l : s.heap.IsList a vs) : s'.heap.IsList a vs := g.kb.list l (by simp)
theorem Goes.ns {s s' : Shared} {a : Addr} {m : Str → Option Value} (g : Goes [] s s') (l : s.heap.Ns a m) : s'.heap.Ns a m := g.kb.ns l (by simp)
theorem Goes.any {W : List Addr} {s s' : Shared} (g : Goes [] s s') : Goes W s s' := g.mono (by simp)
theorem Goes.tk {W : List Addr} {s : Shared} {h' : Heap} {tk : Nat} (k : Goes W s { s with heap := h' }) : Goes W s { s with heap := h', toks := tk } := Goes.of k.kb
section
variable {prog : Program} {w : World} {A : Around} {E : Value → Shared → Prop} {s : Shared}

theorem lk53 : (KK w).lookup 53 = some { cls := .type "function", data := .func (fd 53) } := by kernel_rfl
theorem cd53 : codeIn (KK w) (fd 53).code (fd 53).qualname = true := by kernel_rfl
theorem bo53 : (fd 53).body = .stmts (bod 53) := by kernel_rfl
theorem and_ctr {a b : Int} {ta tb : Tok} {Q : Value → Shared → Prop} (c : SC w s.heap) (ok : AOk A 2) (h : ∀ s' t, Goes [] s s' → Q (.int (Builtin.bitAnd a b) t) s') :
    wpAny (model prog w) A (call (.ref 53) [.int a ta, .int b tb]) Q E s := by
  refine callFd (k := 1) (binds := [("a", .int a ta), ("b", .int b tb)]) 53 c ok lk53 cd53 bo53 (BindsTo.of_eq (by kernel_rfl)) (by decide +kernel) (locs (by kernel_rfl)) ?_ (by kernel_rfl) (by kernel_rfl) (by kernel_rfl)
  intro L s₁ m hL g hn hm ok'
  have ha : m "a" = some (.int a ta) := (hm _).trans (by kernel_rfl)
  have hb : m "b" = some (.int b tb) := (hm _).trans (by kernel_rfl)
  clear hm
  refine wpAny_execs_cons (wpAny_Return_some (wpAny_BinOp ?_))
  refine nmL hn ha ?_ ?_ ?_ ?_
  refine nmL hn hb ?_ ?_ ?_ ?_
  refine and_int ?_
  exact h _ _ (Goes.trans g (Goes.of (KB.refl _ _)))
  all_goals walk_at "sd"

theorem lk60 : (KK w).lookup 60 = some { cls := .type "function", data := .func (fd 60) } := by kernel_rfl
theorem cd60 : codeIn (KK w) (fd 60).code (fd 60).qualname = true := by kernel_rfl
theorem bo60 : (fd 60).body = .stmts (bod 60) := by kernel_rfl
theorem iadd_ctr {a b : Int} {ta tb : Tok} {Q : Value → Shared → Prop} (c : SC w s.heap) (ok : AOk A 2) (h : ∀ s' t, Goes [] s s' → Q (.int (a + b) t) s') :
    wpAny (model prog w) A (call (.ref 60) [.int a ta, .int b tb]) Q E s := by
  refine callFd (k := 1) (binds := [("a", .int a ta), ("b", .int b tb)]) 60 c ok lk60 cd60 bo60 (BindsTo.of_eq (by kernel_rfl)) (by decide +kernel) (locs (by kernel_rfl)) ?_ (by kernel_rfl) (by kernel_rfl) (by kernel_rfl)
  intro L s₁ m hL g hn hm ok'
  have ha : m "a" = some (.int a ta) := (hm _).trans (by kernel_rfl)
  have hb : m "b" = some (.int b tb) := (hm _).trans (by kernel_rfl)
  clear hm
  refine wpAny_execs_cons (wpAny_AugAssign_Name (wpAny_loadName_local ?_ ?_ hn ha ?_))
  rotate_left 2
  refine nmL hn hb ?_ ?_ ?_ ?_
  refine iadd_int ?_
  refine stL hn (fun s₂ hn' g₂ => ?_) ?_ ?_
  refine wpAny_execs_cons (wpAny_Return_some ?_)
  refine nmL hn' up_same ?_ ?_ ?_ ?_
  exact h _ _ ((g.trans (Goes.of (KB.refl _ _))).loc hL g₂)
  all_goals walk_at "sd"

theorem lk67 : (KK w).lookup 67 = some { cls := .type "function", data := .func (fd 67) } := by kernel_rfl
theorem cd67 : codeIn (KK w) (fd 67).code (fd 67).qualname = true := by kernel_rfl
theorem bo67 : (fd 67).body = .stmts (bod 67) := by kernel_rfl
theorem isub_ctr {a b : Int} {ta tb : Tok} {Q : Value → Shared → Prop} (c : SC w s.heap) (ok : AOk A 2) (h : ∀ s' t, Goes [] s s' → Q (.int (a - b) t) s') :
    wpAny (model prog w) A (call (.ref 67) [.int a ta, .int b tb]) Q E s := by
  refine callFd (k := 1) (binds := [("a", .int a ta), ("b", .int b tb)]) 67 c ok lk67 cd67 bo67 (BindsTo.of_eq (by kernel_rfl)) (by decide +kernel) (locs (by kernel_rfl)) ?_ (by kernel_rfl) (by kernel_rfl) (by kernel_rfl)
  intro L s₁ m hL g hn hm ok'
  have ha : m "a" = some (.int a ta) := (hm _).trans (by kernel_rfl)
  have hb : m "b" = some (.int b tb) := (hm _).trans (by kernel_rfl)
  clear hm
  refine wpAny_execs_cons (wpAny_AugAssign_Name (wpAny_loadName_local ?_ ?_ hn ha ?_))
  rotate_left 2
  refine nmL hn hb ?_ ?_ ?_ ?_
  refine isub_int ?_
  refine stL hn (fun s₂ hn' g₂ => ?_) ?_ ?_
  refine wpAny_execs_cons (wpAny_Return_some ?_)
  refine nmL hn' up_same ?_ ?_ ?_ ?_
  exact h _ _ ((g.trans (Goes.of (KB.refl _ _))).loc hL g₂)
  all_goals walk_at "sd"

theorem lk21 : (KK w).lookup 21 = some { cls := .type "function", data := .func (fd 21) } := by kernel_rfl
theorem cd21 : codeIn (KK w) (fd 21).code (fd 21).qualname = true := by kernel_rfl
theorem bo21 : (fd 21).body = .stmts (bod 21) := by kernel_rfl
theorem xfrm_ctr {v : Value} {Q : Value → Shared → Prop} (c : SC w s.heap) (ok : AOk A 2) (h : ∀ s', Goes [] s s' → Q v s') :
    wpAny (model prog w) A (call (.ref 21) [v]) Q E s := by
  refine callFd (k := 1) (binds := [("s", v)]) 21 c ok lk21 cd21 bo21 (BindsTo.of_eq (by kernel_rfl)) (by decide +kernel) (locs (by kernel_rfl)) ?_ (by kernel_rfl) (by kernel_rfl) (by kernel_rfl)
  intro L s₁ m hL g hn hm ok'
  have ha : m "s" = some v := (hm _).trans (by kernel_rfl)
  clear hm
  refine wpAny_execs_cons (wpAny_Return_some ?_)
  refine nmL hn ha ?_ ?_ ?_ ?_
  exact h _ g
  all_goals walk_at "sd"

theorem lk28 : (KK w).lookup 28 = some { cls := .type "function", data := .func (fd 28) } := by kernel_rfl
theorem cd28 : codeIn (KK w) (fd 28).code (fd 28).qualname = true := by kernel_rfl
theorem bo28 : (fd 28).body = .stmts (bod 28) := by kernel_rfl
theorem bln_ctr {t : Addr} {v1 v2 : Value} {x r : Str} {Q : Value → Shared → Prop} (c : SC w s.heap) (ok : AOk A 2) (ht : s.heap.IsTuple t #[v1, v2])
    (h1 : (v1 = .none ∧ x = ("C" : Str)) ∨ ∃ u, v1 = .str x u) (h2 : (v2 = .none ∧ r = x) ∨ ∃ y u, v2 = .str y u ∧ r = x ++ ("." : Str) ++ y ∧ x.length + 1 + y.length ≤ sizeLine)
    (h : ∀ s' tk, Goes [] s s' → Q (.str r tk) s') :
    wpAny (model prog w) A (call (.ref 28) [.ref t]) Q E s := by
  refine callFd (k := 1) (binds := [("localetuple", .ref t)]) 28 c ok lk28 cd28 bo28 (BindsTo.of_eq (by kernel_rfl)) (by decide +kernel) (locs (by kernel_rfl)) ?_ (by kernel_rfl) (by kernel_rfl) (by kernel_rfl)
  intro L s₁ m hL g hn hm ok'
  have ha : m "localetuple" = some (.ref t) := (hm _).trans (by kernel_rfl)
  clear hm
  refine wpAny_execs_cons (wpAny_Try_except ?_)
  refine wpAny_execs_cons (Assign_Tuple ?_ (by kernel_rfl) (by kernel_rfl))
  refine nmL hn ha ?_ ?_ ?_ ?_
  refine wpAny_assign_Tuple ok'.hh (items := #[v1, v2]) (let ⟨o, e, r⟩ := ht; ⟨o, g.kb.all _ _ e, r⟩) (by kernel_rfl) (by kernel_rfl) fun h₂ he => ?_
  have g₂ : Goes [] s { s₁ with heap := h₂ } := g.trans (Goes.of fun b o _ e => he b o (Nat.ne_of_lt (Heap.lt_size e)) e)
  have hn₂ : ({ s₁ with heap := h₂ } : Shared).heap.Ns L m := hn.extBut he (Nat.ne_of_lt hn.lt)
  generalize ({ s₁ with heap := h₂ } : Shared) = s₂ at g₂ hn₂ ⊢
  refine assignInOrder_cons (wpAny_assign_Name (stL hn₂ (fun s₃ hn₃ g₃ => ?_) ?_ ?_))
  refine assignInOrder_cons (wpAny_assign_Name (stL hn₃ (fun s₄ hn₄ g₄ => ?_) ?_ ?_))
  refine assignInOrder_nil ?_
  have g₄ : Goes [] s s₄ := (g₂.loc hL g₃).loc hL g₄
  refine wpAny_execs_cons (wpAny_If (wpAny_isTrue_Compare1 ?_ (by kernel_rfl)))
  refine nmL hn₄ (up_else (by decide +kernel) up_same) ?_ ?_ ?_ ?_
  refine wpAny_Constant_none (is_none (wpAny_truthy_bool ?_))
  have tail : ∀ (s₅ : Shared) (m₅ : Str → Option Value) (u : Tok) (E' : Value → Shared → Prop), Goes [] s s₅ → s₅.heap.Ns L m₅ → m₅ "language" = some (.str x u) → m₅ "encoding" = some v2 →
      wpAny (model prog w) (A.deeper (callEnv (fd 28) L 28)) (execs ((match (bod 28).head? with | some (.Try b _ _ _ _) => b | _ => []).drop 2) (callEnv (fd 28) L 28)) (fun f s' => match f with | .ret v => Q v s' | _ => False) E' s₅ := by
    intro s₅ m₅ u E' g₅ hn₅ hl he
    refine wpAny_execs_cons (wpAny_If (wpAny_isTrue_Compare1 ?_ (by kernel_rfl)))
    refine nmL hn₅ he ?_ ?_ ?_ ?_
    refine wpAny_Constant_none (is_none (wpAny_truthy_bool ?_))
    rcases h2 with ⟨rfl, rfl⟩ | ⟨y, u2, rfl, rfl, hsz⟩
    · show wpAny _ _ (execs _ _) _ _ _
      refine wpAny_execs_cons (wpAny_Return_some ?_)
      refine nmL hn₅ hl ?_ ?_ ?_ ?_
      exact h _ _ g₅
      all_goals walk_at "sd"
    · show wpAny _ _ (execs _ _) _ _ _
      have e1 : (("." : Str)).length = 1 := by decide +kernel
      refine wpAny_execs_cons (wpAny_Return_some (wpAny_BinOp (wpAny_BinOp ?_)))
      refine nmL hn₅ hl ?_ ?_ ?_ ?_
      refine wpAny_Constant_str (add_str (fun t' tk' => ?_) ?_)
      refine nmL hn₅ he ?_ ?_ ?_ ?_
      refine add_str (fun t'' tk'' => ?_) ?_
      exact h _ _ (g₅.trans (Goes.of (KB.refl _ _)))
      · rw [Str.length_append, e1]; omega
      all_goals first | walk_at "sd" | (rw [e1]; omega)
    all_goals walk_at "sd"
  rcases h1 with ⟨rfl, rfl⟩ | ⟨u, rfl⟩
  · show wpAny _ _ (execs _ _) _ _ _
    refine wpAny_execs_cons (wpAny_Assign_Name (wpAny_Constant_str (stL hn₄ (fun s₅ hn₅ g₅ => ?_) ?_ ?_)) ?_)
    refine wpAny_execs_nil ?_
    refine wpAny_mono (tail s₅ _ _ _ ((g₄.trans (Goes.of (KB.refl _ _))).loc hL g₅) hn₅ up_same (up_else (by decide +kernel) up_same)) (fun f s' hf => ?_) fun _ _ e => e
    cases f <;> first | exact hf | exact hf.elim
    all_goals walk_at "sd"
  · show wpAny _ _ (execs _ _) _ _ _
    refine wpAny_execs_nil ?_
    refine wpAny_mono (tail s₄ _ _ _ g₄ hn₄ (up_else (by decide +kernel) up_same) up_same) (fun f s' hf => ?_) fun _ _ e => e
    cases f <;> first | exact hf | exact hf.elim
  all_goals walk_at "sd"
end
end Mine
end

section
open PySem PySem.W PyProof.Rows PySem.Calls
set_option Elab.async false
set_option maxRecDepth 100000
set_option maxHeartbeats 4000000
namespace Mine
local macro_rules | `(tactic| walk_at "sd") => `(tactic| first | kernel_rfl | decide | rfl)
def slt (x y : Str) : Prop := x.cps.toList < y.cps.toList
theorem slt_trans {x y z : Str} (h : slt x y) (k : slt y z) : slt x z := List.lt_trans h k
theorem slt_irrefl (x : Str) : ¬ slt x x := List.lt_irrefl _
/-- k is the first place of a strictly rising row whose text is not under x -/
structure IsBis (ss : List Str) (x : Str) (k : Nat) : Prop where
  le : k ≤ ss.length
  lo : ∀ i y, i < k → ss[i]? = some y → slt y x
  hi : ∀ i y, k ≤ i → ss[i]? = some y → ¬ slt y x
theorem rise_get {ss : List Str} (h : ss.Pairwise slt) {i j : Nat} {y z : Str} (hij : i < j) (hi : ss[i]? = some y) (hj : ss[j]? = some z) : slt y z := by
  obtain ⟨h1, rfl⟩ := List.getElem?_eq_some_iff.mp hi
  obtain ⟨h2, rfl⟩ := List.getElem?_eq_some_iff.mp hj
  exact List.pairwise_iff_getElem.mp h i j h1 h2 hij
theorem StrsAre.at {vs : List Value} {ss : List Str} (h : StrsAre vs ss) : ∀ {i : Nat} {v : Value}, vs[i]? = some v → ∃ y t, v = .str y t ∧ ss[i]? = some y := by
  induction h with
  | nil => intro i v e; simp at e
  | cons x t _ ih =>
    intro i v e
    cases i with
    | zero => simp at e; exact ⟨x, t, e.symm, by simp⟩
    | succ i => simp at e; obtain ⟨y, t', rfl, e'⟩ := ih e; exact ⟨y, t', rfl, by simpa using e'⟩
theorem StrsAre.to {vs : List Value} {ss : List Str} (h : StrsAre vs ss) {i : Nat} {y : Str} (e : ss[i]? = some y) : ∃ t, vs[i]? = some (.str y t) := by
  obtain ⟨h1, rfl⟩ := List.getElem?_eq_some_iff.mp e
  have hl := StrsAre.length h
  obtain ⟨y, t, e1, e2⟩ := StrsAre.at h (i := i) (v := vs[i]'(by omega)) (by simp)
  rw [List.getElem?_eq_getElem h1] at e2
  cases e2
  exact ⟨t, by rw [← e1]; simp⟩

section
variable {prog : Program} {w : World} {A : Around} {E : Value → Shared → Prop} {s : Shared}
theorem lk46 : (KK w).lookup 46 = some { cls := .type "function", data := .func (fd 46) } := by kernel_rfl
theorem cd46 : codeIn (KK w) (fd 46).code (fd 46).qualname = true := by kernel_rfl
theorem bo46 : (fd 46).body = .stmts (bod 46) := by kernel_rfl

theorem half (lo hi : Nat) : Int.fdiv ((lo : Int) + (hi : Int)) 2 = (((lo + hi) / 2 : Nat) : Int) := by
  rw [Int.fdiv_eq_ediv_of_nonneg _ (by omega)]
  omega

/-- what the two loops keep -/
def BisJ (L a : Addr) (x : Str) (kv : Value) (ss : List Str) (k : Nat) (h : Heap) : Prop :=
  ∃ m lo hi tx tl th, h.Ns L m ∧ m "a" = some (.ref a) ∧ m "x" = some (.str x tx) ∧ m "key" = some kv ∧ m "lo" = some (.int ((lo : Nat) : Int) tl) ∧ m "hi" = some (.int ((hi : Nat) : Int) th) ∧
    lo ≤ hi ∧ hi ≤ ss.length ∧ (∀ i y, i < lo → ss[i]? = some y → slt y x) ∧ (∀ i y, hi ≤ i → ss[i]? = some y → ¬ slt y x) ∧ k = hi - lo

theorem bis_ctr {a : Addr} {x : Str} {tx : Tok} {ss : List Str} {vs : List Value} {args : List Value} {kw : List (Str × Value)} {kv : Value} {t0 : Tok} {Q : Value → Shared → Prop} (c : SC w s.heap) (ok : AOk A 5)
    (hl : s.heap.IsList a vs.toArray) (hS : StrsAre vs ss) (hsz : ss.length < 2 ^ 60) (hr : ss.Pairwise slt)
    (hbind : BindsTo s (fd 46) ⟨args, kw⟩ [("a", .ref a), ("x", .str x tx), ("lo", .int 0 t0), ("hi", .none), ("key", kv)]) (hkv : kv = .none ∨ kv = .ref 21)
    (h : ∀ s' k t, Goes [] s s' → IsBis ss x k → Q (.int (k : Nat) t) s') :
    wpAny (model prog w) A (call (.ref 46) args kw) Q E s := by
  have hlen := StrsAre.length hS
  refine callFd (k := 4) (binds := [("a", .ref a), ("x", .str x tx), ("lo", .int 0 t0), ("hi", .none), ("key", kv)]) 46 c ok lk46 cd46 bo46 hbind (by decide +kernel) (locs (by kernel_rfl)) ?_ (by kernel_rfl) (by kernel_rfl) (by kernel_rfl)
  intro L s₁ m hL g hn hm ok'
  have ha : m "a" = some (.ref a) := (hm _).trans (by kernel_rfl)
  have hx : m "x" = some (.str x tx) := (hm _).trans (by kernel_rfl)
  have hlo : m "lo" = some (.int 0 t0) := (hm _).trans (by kernel_rfl)
  have hhi : m "hi" = some .none := (hm _).trans (by kernel_rfl)
  have hkey : m "key" = some kv := (hm _).trans (by kernel_rfl)
  clear hm
  refine wpAny_execs_cons (wpAny_If (wpAny_isTrue_Compare1 ?_ (by kernel_rfl)))
  refine nmL hn hlo ?_ ?_ ?_ ?_
  refine wpAny_Constant_int (lt_int (wpAny_truthy_bool ?_))
  show wpAny _ _ (execs _ _) _ _ _
  refine wpAny_execs_nil ?_
  refine wpAny_execs_cons (wpAny_If (wpAny_isTrue_Compare1 ?_ (by kernel_rfl)))
  refine nmL hn hhi ?_ ?_ ?_ ?_
  refine wpAny_Constant_none (is_none (wpAny_truthy_bool ?_))
  show wpAny _ _ (execs _ _) _ _ _
  refine wpAny_execs_cons (wpAny_Assign_Name (Call_ ?_ (by kernel_rfl)) (by kernel_rfl))
  refine nmB (v := .builtin "len") (g.sc c) (by simp [gl]) (by simp [bl]) ?_ ?_ ?_ ?_ ?_ ?_
  refine PyProof.Rows.callWith_builtin1 (wpAny_items_cons ?_ (by kernel_rfl)) (by kernel_rfl) (by kernel_rfl)
  refine nmL hn ha ?_ ?_ ?_ ?_
  refine wpAny_items_nil ?_
  refine call_len_list (g.list hl) (by rw [List.size_toArray]; omega) ?_
  refine stL hn (fun s₂ hn₂ g₂ => ?_) ?_ ?_
  refine wpAny_execs_nil ?_
  replace g₂ := (g.trans (Goes.of (KB.refl _ _))).loc hL g₂
  -- the state at the loops
  have j0 : BisJ L a x kv ss ss.length s₂.heap := ⟨_, 0, ss.length, _, _, _, hn₂, up_else (by decide +kernel) ha, up_else (by decide +kernel) hx, up_else (by decide +kernel) hkey, up_else (by decide +kernel) hlo,
    (by rw [up_same, List.size_toArray, hlen]), Nat.zero_le _, Nat.le_refl _, (fun i y q => absurd q (Nat.not_lt_zero _)), (fun i y q e => by rw [List.getElem?_eq_none q] at e; cases e), rfl⟩
  refine wpAny_execs_cons (wpAny_If (wpAny_isTrue_Compare1 ?_ (by kernel_rfl)))
  refine nmL hn₂ (up_else (by decide +kernel) hkey) ?_ ?_ ?_ ?_
  refine wpAny_Constant_none (is_none (wpAny_truthy_bool ?_))
  have fin : ∀ (s₃ : Shared) (E' : Value → Shared → Prop), BisJ L a x kv ss 0 s₃.heap → Goes [] s s₃ →
      wpAny (model prog w) (A.deeper (callEnv (fd 46) L 46)) (execs ((bod 46).drop 3) (callEnv (fd 46) L 46)) (fun f s' => Q (match f with | .ret v => v | _ => .none) s') E' s₃ := by
    rintro s₃ E' ⟨m₃, lo, hi, tx', tl, th, hn₃, _, _, _, hl₃, _, h1, h2, h3, h4, h5⟩ g₃
    refine wpAny_execs_cons (wpAny_Return_some ?_)
    refine nmL hn₃ hl₃ ?_ ?_ ?_ ?_
    have : hi = lo := by omega
    subst this
    exact h _ _ _ g₃ ⟨h2, h3, h4⟩
    all_goals walk_at "sd"
  rcases hkv with rfl | rfl
  · show wpAny _ _ (execs _ _) _ _ _
    refine wpAny_execs_cons (whileInv [L] (BisJ L a x .none ss) ss.length j0 ?_)
    rintro n s₃ E' ⟨m₃, lo, hi, tx', tl, th, hn₃, ha₃, hx₃, hk₃, hl₃, hh₃, h1, h2, h3, h4, rfl⟩ gl₃
    have g₃ := g₂.loc hL gl₃
    refine wpAny_isTrue_Compare1 ?_ (by kernel_rfl)
    refine nmL hn₃ hl₃ ?_ ?_ ?_ ?_
    refine nmL hn₃ hh₃ ?_ ?_ ?_ ?_
    refine lt_int (wpAny_truthy_bool ?_)
    by_cases hlt : lo < hi
    · rw [decide_eq_true (by omega : (lo : Int) < hi)]
      show wpAny _ _ (execs _ _) _ _ _
      refine wpAny_execs_cons (wpAny_Assign_Name (wpAny_BinOp (wpAny_BinOp ?_)) (by kernel_rfl))
      refine nmL hn₃ hl₃ ?_ ?_ ?_ ?_
      refine nmL hn₃ hh₃ ?_ ?_ ?_ ?_
      refine add_int (wpAny_Constant_int (floordiv_int (by decide) ?_))
      rw [half]
      refine stL hn₃ (fun s₄ hn₄ q₄ => ?_) ?_ ?_
      replace q₄ : Goes [L] s₃ s₄ := Goes.trans (Goes.of (KB.refl _ _)) q₄
      generalize hmid : (lo + hi) / 2 = mid at hn₄
      have hm1 : lo ≤ mid := by omega
      have hm2 : mid < hi := by omega
      have g₄ := g₃.loc hL q₄
      obtain ⟨y, hy⟩ : ∃ y, ss[mid]? = some y := ⟨ss[mid]'(by omega), by simp⟩
      obtain ⟨ty, hv⟩ := StrsAre.to hS hy
      have hn₅ := hn₄
      have q₅ := q₄
      refine wpAny_execs_cons (wpAny_If (wpAny_isTrue_Compare1 (Subscript_ ?_) (by kernel_rfl)))
      refine nmL hn₄ (up_else (by decide +kernel) ha₃) ?_ ?_ ?_ ?_
      refine nmL hn₄ up_same ?_ ?_ ?_ ?_
      refine item_listR (g₄.list hl) (by omega) (by omega) (x := .str y ty) (by simpa using hv) ?_ (by with_unfolding_all rfl)
      refine nmL hn₄ (up_else (by decide +kernel) hx₃) ?_ ?_ ?_ ?_
      refine PyProof.Rows.lt_str (wpAny_truthy_bool ?_)
      by_cases hyx : slt y x
      · rw [decide_eq_true (p := y.cps.toList < x.cps.toList) hyx]
        show wpAny _ _ (execs _ _) _ _ _
        refine wpAny_execs_cons (wpAny_Assign_Name (wpAny_BinOp ?_) (by kernel_rfl))
        refine nmL hn₅ up_same ?_ ?_ ?_ ?_
        refine wpAny_Constant_int (add_int ?_)
        rw [show ((mid : Int) + 1) = ((mid + 1 : Nat) : Int) from rfl]
        refine stL hn₅ (fun s₆ hn₆ q₆ => ?_) ?_ ?_
        refine wpAny_execs_nil (wpAny_execs_nil ⟨q₅.trans (Goes.trans (Goes.of (KB.refl _ _)) q₆), hi - (mid + 1), by omega, _, mid + 1, hi, tx', _, th, hn₆, ?_, ?_, ?_, up_same, ?_, by omega, h2, ?_, h4, rfl⟩)
        · exact up_else (by decide +kernel) (up_else (by decide +kernel) ha₃)
        · exact up_else (by decide +kernel) (up_else (by decide +kernel) hx₃)
        · exact up_else (by decide +kernel) (up_else (by decide +kernel) hk₃)
        · exact up_else (by decide +kernel) (up_else (by decide +kernel) hh₃)
        · intro i z hi' hz
          rcases Nat.lt_or_ge i mid with q | q
          · exact slt_trans (rise_get hr q hz hy) hyx
          · have : i = mid := by omega
            subst this
            rw [hy] at hz; cases hz; exact hyx
        all_goals walk_at "sd"
      · rw [decide_eq_false (p := y.cps.toList < x.cps.toList) hyx]
        show wpAny _ _ (execs _ _) _ _ _
        refine wpAny_execs_cons (wpAny_Assign_Name ?_ (by kernel_rfl))
        refine nmL hn₅ up_same ?_ ?_ ?_ ?_
        refine stL hn₅ (fun s₆ hn₆ q₆ => ?_) ?_ ?_
        refine wpAny_execs_nil (wpAny_execs_nil ⟨q₅.trans q₆, mid - lo, by omega, _, lo, mid, tx', tl, _, hn₆, ?_, ?_, ?_, ?_, up_same, by omega, by omega, h3, ?_, rfl⟩)
        · exact up_else (by decide +kernel) (up_else (by decide +kernel) ha₃)
        · exact up_else (by decide +kernel) (up_else (by decide +kernel) hx₃)
        · exact up_else (by decide +kernel) (up_else (by decide +kernel) hk₃)
        · exact up_else (by decide +kernel) (up_else (by decide +kernel) hl₃)
        · intro i z hi' hz hzx
          rcases Nat.lt_or_ge mid i with q | q
          · exact hyx (slt_trans (rise_get hr q hy hz) hzx)
          · have : i = mid := by omega
            subst this
            rw [hy] at hz; cases hz; exact hyx hzx
        all_goals walk_at "sd"
      all_goals walk_at "sd"
    · rw [decide_eq_false (by omega : ¬ (lo : Int) < hi)]
      show wpAny _ _ (execs _ _) _ _ _
      exact wpAny_execs_nil (fin s₃ _ ⟨m₃, lo, hi, tx', tl, th, hn₃, ha₃, hx₃, hk₃, hl₃, hh₃, h1, h2, h3, h4, by omega⟩ g₃)
    all_goals walk_at "sd"
  · show wpAny _ _ (execs _ _) _ _ _
    refine wpAny_execs_cons (whileInv [L] (BisJ L a x (.ref 21) ss) ss.length j0 ?_)
    rintro n s₃ E' ⟨m₃, lo, hi, tx', tl, th, hn₃, ha₃, hx₃, hk₃, hl₃, hh₃, h1, h2, h3, h4, rfl⟩ gl₃
    have g₃ := g₂.loc hL gl₃
    refine wpAny_isTrue_Compare1 ?_ (by kernel_rfl)
    refine nmL hn₃ hl₃ ?_ ?_ ?_ ?_
    refine nmL hn₃ hh₃ ?_ ?_ ?_ ?_
    refine lt_int (wpAny_truthy_bool ?_)
    by_cases hlt : lo < hi
    · rw [decide_eq_true (by omega : (lo : Int) < hi)]
      show wpAny _ _ (execs _ _) _ _ _
      refine wpAny_execs_cons (wpAny_Assign_Name (wpAny_BinOp (wpAny_BinOp ?_)) (by kernel_rfl))
      refine nmL hn₃ hl₃ ?_ ?_ ?_ ?_
      refine nmL hn₃ hh₃ ?_ ?_ ?_ ?_
      refine add_int (wpAny_Constant_int (floordiv_int (by decide) ?_))
      rw [half]
      refine stL hn₃ (fun s₄ hn₄ q₄ => ?_) ?_ ?_
      replace q₄ : Goes [L] s₃ s₄ := Goes.trans (Goes.of (KB.refl _ _)) q₄
      generalize hmid : (lo + hi) / 2 = mid at hn₄
      have hm1 : lo ≤ mid := by omega
      have hm2 : mid < hi := by omega
      have g₄ := g₃.loc hL q₄
      obtain ⟨y, hy⟩ : ∃ y, ss[mid]? = some y := ⟨ss[mid]'(by omega), by simp⟩
      obtain ⟨ty, hv⟩ := StrsAre.to hS hy
      refine wpAny_execs_cons (wpAny_If (wpAny_isTrue_Compare1 (Call_ ?_ (by kernel_rfl)) (by kernel_rfl)))
      refine nmL hn₄ (up_else (by decide +kernel) hk₃) ?_ ?_ ?_ ?_
      refine callWith_def (o := { cls := .type "function", data := .func (fd 21) }) rfl (wpAny_items_cons (Subscript_ ?_) (by kernel_rfl)) (by kernel_rfl)
      refine nmL hn₄ (up_else (by decide +kernel) ha₃) ?_ ?_ ?_ ?_
      refine nmL hn₄ up_same ?_ ?_ ?_ ?_
      refine item_listR (g₄.list hl) (by omega) (by omega) (x := .str y ty) (by simpa using hv) ?_ (by with_unfolding_all rfl)
      refine wpAny_items_nil ⟨(g₄.sc c).K _ _ lk21, ?_⟩
      refine xfrm_ctr (g₄.sc c) (ok'.mono (by decide)) fun s₅ g₅ => ?_
      have hn₅ := g₅.ns hn₄
      have q₅ : Goes [L] s₃ s₅ := q₄.trans g₅.any
      refine nmL hn₅ (up_else (by decide +kernel) hx₃) ?_ ?_ ?_ ?_
      refine PyProof.Rows.lt_str (wpAny_truthy_bool ?_)
      by_cases hyx : slt y x
      · rw [decide_eq_true (p := y.cps.toList < x.cps.toList) hyx]
        show wpAny _ _ (execs _ _) _ _ _
        refine wpAny_execs_cons (wpAny_Assign_Name (wpAny_BinOp ?_) (by kernel_rfl))
        refine nmL hn₅ up_same ?_ ?_ ?_ ?_
        refine wpAny_Constant_int (add_int ?_)
        rw [show ((mid : Int) + 1) = ((mid + 1 : Nat) : Int) from rfl]
        refine stL hn₅ (fun s₆ hn₆ q₆ => ?_) ?_ ?_
        refine wpAny_execs_nil (wpAny_execs_nil ⟨q₅.trans (Goes.trans (Goes.of (KB.refl _ _)) q₆), hi - (mid + 1), by omega, _, mid + 1, hi, tx', _, th, hn₆, ?_, ?_, ?_, up_same, ?_, by omega, h2, ?_, h4, rfl⟩)
        · exact up_else (by decide +kernel) (up_else (by decide +kernel) ha₃)
        · exact up_else (by decide +kernel) (up_else (by decide +kernel) hx₃)
        · exact up_else (by decide +kernel) (up_else (by decide +kernel) hk₃)
        · exact up_else (by decide +kernel) (up_else (by decide +kernel) hh₃)
        · intro i z hi' hz
          rcases Nat.lt_or_ge i mid with q | q
          · exact slt_trans (rise_get hr q hz hy) hyx
          · have : i = mid := by omega
            subst this
            rw [hy] at hz; cases hz; exact hyx
        all_goals walk_at "sd"
      · rw [decide_eq_false (p := y.cps.toList < x.cps.toList) hyx]
        show wpAny _ _ (execs _ _) _ _ _
        refine wpAny_execs_cons (wpAny_Assign_Name ?_ (by kernel_rfl))
        refine nmL hn₅ up_same ?_ ?_ ?_ ?_
        refine stL hn₅ (fun s₆ hn₆ q₆ => ?_) ?_ ?_
        refine wpAny_execs_nil (wpAny_execs_nil ⟨q₅.trans q₆, mid - lo, by omega, _, lo, mid, tx', tl, _, hn₆, ?_, ?_, ?_, ?_, up_same, by omega, by omega, h3, ?_, rfl⟩)
        · exact up_else (by decide +kernel) (up_else (by decide +kernel) ha₃)
        · exact up_else (by decide +kernel) (up_else (by decide +kernel) hx₃)
        · exact up_else (by decide +kernel) (up_else (by decide +kernel) hk₃)
        · exact up_else (by decide +kernel) (up_else (by decide +kernel) hl₃)
        · intro i z hi' hz hzx
          rcases Nat.lt_or_ge mid i with q | q
          · exact hyx (slt_trans (rise_get hr q hy hz) hzx)
          · have : i = mid := by omega
            subst this
            rw [hy] at hz; cases hz; exact hyx hzx
        all_goals walk_at "sd"
      all_goals walk_at "sd"
    · rw [decide_eq_false (by omega : ¬ (lo : Int) < hi)]
      show wpAny _ _ (execs _ _) _ _ _
      exact wpAny_execs_nil (fin s₃ _ ⟨m₃, lo, hi, tx', tl, th, hn₃, ha₃, hx₃, hk₃, hl₃, hh₃, h1, h2, h3, h4, by omega⟩ g₃)
    all_goals walk_at "sd"
  all_goals walk_at "sd"

theorem bis2_ctr {a : Addr} {x : Str} {tx : Tok} {ss : List Str} {vs : List Value} {Q : Value → Shared → Prop} (c : SC w s.heap) (ok : AOk A 5)
    (hl : s.heap.IsList a vs.toArray) (hS : StrsAre vs ss) (hsz : ss.length < 2 ^ 60) (hr : ss.Pairwise slt)
    (h : ∀ s' k t, Goes [] s s' → IsBis ss x k → Q (.int (k : Nat) t) s') :
    wpAny (model prog w) A (call (.ref 46) [.ref a, .str x tx]) Q E s :=
  bis_ctr (tx := tx) (t0 := 220) c ok hl hS hsz hr (kp_binds c.K (fun S => by kernel_rfl)) (.inl rfl) h
end
end Mine
end

section
open PySem PySem.W PyProof.Rows PySem.Calls
set_option Elab.async false
set_option maxRecDepth 100000
set_option maxHeartbeats 4000000
namespace Mine
local macro_rules | `(tactic| walk_at "sd") => `(tactic| first | kernel_rfl | decide | rfl)
theorem plain_nodict {h : Heap} {a : Addr} {vs : Array Value} (l : h.PlainList a vs) : h.NoDictAt (.ref a) := by
  obtain ⟨n, e⟩ := l
  exact ⟨_, e, rfl⟩
section
variable {prog : Program} {w : World} {A : Around} {E : Value → Shared → Prop} {s : Shared}
theorem getInsert {a : Addr} {vs : Array Value} {pl : Sem Bool} {Q : Value × List Value → Shared → Prop} (l : s.heap.PlainList a vs) (h : Q (.builtin "list.insert", [.ref a]) s) :
    wpAny (model prog w) A (getMethod (.ref a) "insert" pl) Q E s := getMethod_list_of PySem.F.slot_list_insert PySem.F.type_list_insert l.isList (plain_nodict l) h
theorem getAppend {a : Addr} {vs : Array Value} {pl : Sem Bool} {Q : Value × List Value → Shared → Prop} (l : s.heap.PlainList a vs) (h : Q (.builtin "list.append", [.ref a]) s) :
    wpAny (model prog w) A (getMethod (.ref a) "append" pl) Q E s := by
  obtain ⟨n, e⟩ := l
  exact Calls.getMethod_list_append e rfl rfl h
theorem callAppend {a : Addr} {li : List Value} {x : Value} {Q : Value → Shared → Prop} (l : s.heap.PlainList a li.toArray) (hz : li.length ≤ sizeLine) (h : ∀ s', s'.heap.PlainList a (li ++ [x]).toArray → Goes [a] s s' → Q .none s') :
    wpAny (model prog w) A (call (.builtin "list.append") [.ref a, x]) Q E s :=
  wpAny_list_append_plain l (fun h' l' hs => h _ (by simpa using l') (Goes.of (KB.same hs (List.mem_singleton.mpr rfl)))) (by simpa using hz)
theorem callInsert0 {a : Addr} {li : List Value} {x : Int} {k : Nat} {u : Tok} {y : Value} {Q : Value → Shared → Prop} (hx : x = (k : Int)) (hf : Builtin.List.listFitsIndex x = true) (l : s.heap.PlainList a li.toArray) (hk : k ≤ li.length) (hz : li.length ≤ sizeLine)
    (h : ∀ s', s'.heap.PlainList a (li.take k ++ y :: li.drop k).toArray → Goes [a] s s' → Q .none s') :
    wpAny (model prog w) A (call (.builtin "list.insert") [.ref a, .int x u, y]) Q E s := by
  obtain ⟨n, e⟩ := l
  refine call_meets PySem.F.slot_list_insert ⟨_, e, rfl⟩ PySem.F.entry_list_insert (PySem.F.args_list_insert_3 _ _ _) (PySem.AutoSeq1.list_insert_list_int_val_1 a _ n x u y (by simp [hf]) (by rw [List.size_toArray]; exact hz)) ⟨e, ?_⟩
  refine h _ ?_ (Goes.of (KB.same (L := a) (Heap.SameBut.update ..) (List.mem_singleton.mpr rfl)))
  have q := PySem.IsL.update (n := n) (items := li.toArray) e (fun xs : Array Value => have j := if x < 0 then (x + (xs.size : Int)).toNat else min x.toNat xs.size; (xs.extract 0 j).push y ++ xs.extract j)
  have e2 : (li.toArray.extract 0 (if x < 0 then (x + (li.toArray.size : Int)).toNat else min x.toNat li.toArray.size)).push y ++ li.toArray.extract (if x < 0 then (x + (li.toArray.size : Int)).toNat else min x.toNat li.toArray.size) = (li.take k ++ y :: li.drop k).toArray := by
    rw [if_neg (by omega), kl_ins_eq, List.size_toArray]
    have : min x.toNat li.length = k := by omega
    rw [this]
  dsimp only at q
  rw [e2] at q
  exact ⟨_, q⟩
theorem callInsert {a : Addr} {li : List Value} {k : Nat} {u : Tok} {y : Value} {Q : Value → Shared → Prop} (l : s.heap.PlainList a li.toArray) (hk : k ≤ li.length) (hz : li.length ≤ sizeLine)
    (h : ∀ s', s'.heap.PlainList a (li.take k ++ y :: li.drop k).toArray → Goes [a] s s' → Q .none s') :
    wpAny (model prog w) A (call (.builtin "list.insert") [.ref a, .int (k : Int) u, y]) Q E s := by
  have hz' := sizeLine_eq
  refine callInsert0 rfl ?_ l hk hz h
  unfold Builtin.List.listFitsIndex
  simp only [Bool.and_eq_true, decide_eq_true_eq]
  constructor <;> omega

theorem lk37 : (KK w).lookup 37 = some { cls := .type "function", data := .func (fd 37) } := by kernel_rfl
theorem cd37 : codeIn (KK w) (fd 37).code (fd 37).qualname = true := by kernel_rfl
theorem bo37 : (fd 37).body = .stmts (bod 37) := by kernel_rfl

theorem ins_ctr {a : Addr} {x : Str} {tx : Tok} {ss : List Str} {vs : List Value} {Q : Value → Shared → Prop} (c : SC w s.heap) (ok : AOk A 8)
    (hl : s.heap.PlainList a vs.toArray) (hS : StrsAre vs ss) (hsz : ss.length < 2 ^ 20) (hr : ss.Pairwise slt)
    (h : ∀ s' k, Goes [a] s s' → IsBis ss x k → s'.heap.PlainList a (vs.take k ++ .str x tx :: vs.drop k).toArray → Q .none s') :
    wpAny (model prog w) A (call (.ref 37) [.ref a, .str x tx] [("key", .ref 21)]) Q E s := by
  have hlen := StrsAre.length hS
  have hsl := sizeLine_eq
  refine callFd (k := 7) (binds := [("a", .ref a), ("x", .str x tx), ("lo", .int 0 207), ("hi", .none), ("key", .ref 21)]) 37 c ok lk37 cd37 bo37 (kp_binds c.K (fun S => by kernel_rfl)) (by decide +kernel) (locs (by kernel_rfl)) ?_ (by kernel_rfl) (by kernel_rfl) (by kernel_rfl)
  intro L s₁ m hL g hn hm ok'
  have ha : m "a" = some (.ref a) := (hm _).trans (by kernel_rfl)
  have hx : m "x" = some (.str x tx) := (hm _).trans (by kernel_rfl)
  have hlo : m "lo" = some (.int 0 207) := (hm _).trans (by kernel_rfl)
  have hhi : m "hi" = some .none := (hm _).trans (by kernel_rfl)
  have hkey : m "key" = some (.ref 21) := (hm _).trans (by kernel_rfl)
  clear hm
  refine wpAny_execs_cons (wpAny_If (wpAny_isTrue_Compare1 ?_ (by kernel_rfl)))
  refine nmL hn hkey ?_ ?_ ?_ ?_
  refine wpAny_Constant_none (is_none (wpAny_truthy_bool ?_))
  show wpAny _ _ (execs _ _) _ _ _
  refine wpAny_execs_cons (wpAny_Assign_Name ?_ (by kernel_rfl))
  refine wpAny_Call_Name_kw ?_
  refine nmG (g.sc c) (v := .ref 46) (by simp [gl]) ?_ ?_ ?_ ?_ ?_
  refine callWith_def_kw (o := { cls := .type "function", data := .func (fd 46) }) rfl (evalArgs_kw2 (by kernel_rfl) (wpAny_items_cons ?_ (by kernel_rfl)) (by kernel_rfl))
  refine nmL hn ha ?_ ?_ ?_ ?_
  refine wpAny_items_cons (Call_ ?_ (by kernel_rfl)) (by kernel_rfl)
  refine nmL hn hkey ?_ ?_ ?_ ?_
  refine callWith_def (o := { cls := .type "function", data := .func (fd 21) }) rfl (wpAny_items_cons ?_ (by kernel_rfl)) (by kernel_rfl)
  refine nmL hn hx ?_ ?_ ?_ ?_
  refine wpAny_items_nil ⟨(g.sc c).K _ _ lk21, ?_⟩
  refine xfrm_ctr (g.sc c) (ok'.mono (by decide)) fun s₂ g₂ => ?_
  have hn₂ := g₂.ns hn
  replace g₂ := g.trans g₂
  refine wpAny_items_cons ?_ (by kernel_rfl)
  refine nmL hn₂ hlo ?_ ?_ ?_ ?_
  refine wpAny_items_cons ?_ (by kernel_rfl)
  refine nmL hn₂ hhi ?_ ?_ ?_ ?_
  refine wpAny_items_nil ?_
  refine kwAll_cons ?_
  refine nmL hn₂ hkey ?_ ?_ ?_ ?_
  refine kwAll_nil ⟨(g₂.sc c).K _ _ lk46, ?_⟩
  refine bis_ctr (x := x) (tx := tx) (t0 := 207) (kv := .ref 21) (g₂.sc c) (ok'.mono (by decide)) (g₂.list hl.isList) hS (by omega) hr (kp_binds (g₂.sc c).K (fun S => by kernel_rfl)) (.inr rfl) fun s₃ k t g₃ hb => ?_
  have hn₃ := g₃.ns hn₂
  replace g₃ := g₂.trans g₃
  refine stL hn₃ (fun s₄ hn₄ g₄ => ?_) ?_ ?_
  replace g₄ := g₃.loc hL g₄
  refine wpAny_execs_nil ?_
  refine wpAny_execs_cons (wpAny_Expr (MethodCall_ ?_) (by kernel_rfl) (by kernel_rfl))
  refine nmL hn₄ (up_else (by decide +kernel) ha) ?_ ?_ ?_ ?_
  have hl₄ := g₄.kb.plain hl (by simp)
  refine getInsert hl₄ ?_
  refine callWith_method1 (wpAny_items_cons ?_ (by kernel_rfl)) (by kernel_rfl) (by kernel_rfl)
  refine nmL hn₄ up_same ?_ ?_ ?_ ?_
  refine wpAny_items_cons ?_ (by kernel_rfl)
  refine nmL hn₄ (up_else (by decide +kernel) hx) ?_ ?_ ?_ ?_
  refine wpAny_items_nil ?_
  refine callInsert hl₄ (by have := hb.le; omega) (by omega) fun s₅ hl₅ g₅ => ?_
  refine wpAny_execs_nil ?_
  exact h _ k (g₄.any.trans g₅) hb hl₅
  all_goals walk_at "sd"
end
end Mine
end

section
open PySem PySem.W PyProof.Rows PySem.Calls
set_option Elab.async false
set_option maxRecDepth 100000
set_option maxHeartbeats 4000000
namespace Mine
local macro_rules | `(tactic| walk_at "sd") => `(tactic| first | kernel_rfl | decide | rfl)
def partsGo (c : Nat) (p : Nat) : List Nat := if h : p = 0 then [] else ((p - 1) &&& c) :: partsGo c ((p - 1) &&& c)
termination_by p
decreasing_by have := Nat.and_le_left (n := p - 1) (m := c); omega
def partsOf (c : Nat) : List Nat := c :: partsGo c c
theorem partsGo_zero (c : Nat) : partsGo c 0 = [] := by rw [partsGo]; simp
theorem partsGo_pos (c : Nat) {p : Nat} (h : p ≠ 0) : partsGo c p = ((p - 1) &&& c) :: partsGo c ((p - 1) &&& c) := by rw [partsGo]; simp [h]
theorem partsGo_length (c p : Nat) : (partsGo c p).length ≤ p := by
  induction p using Nat.strongRecOn with
  | ind p ih =>
    by_cases h : p = 0
    · rw [h, partsGo_zero]; simp
    · rw [partsGo_pos c h, List.length_cons]
      have := Nat.and_le_left (n := p - 1) (m := c)
      have := ih ((p - 1) &&& c) (by omega)
      omega
def natI (l : List Nat) : List Int := l.map fun n : Nat => (n : Int)

theorem Goes.locs {s s' s'' : Shared} {W : List Addr} (hW : ∀ b ∈ W, s.heap.get? b = none) (x : Goes [] s s') (y : Goes W s' s'') : Goes [] s s'' := by
  obtain ⟨h, t, rfl, a⟩ := x
  obtain ⟨h', t', rfl, b⟩ := y
  exact ⟨h', t', rfl, fun c o _ e => b c o (fun q => by rw [hW _ q] at e; cases e) (a.all c o e)⟩
section
variable {prog : Program} {w : World} {A : Around} {E : Value → Shared → Prop} {s : Shared}
theorem newListP {vs : List Value} {Q : Value → Shared → Prop} (h : ∀ s' D, s.heap.get? D = none → s'.heap.PlainList D vs.toArray → Goes [] s s' → Q (.ref D) s') (hsz : vs.length ≤ sizeLine) : wpAny (model prog w) A (newList vs) Q E s :=
  wpAny_newObj_type (h _ _ (free_size _) ⟨0, Heap.get?_push_size _ rfl⟩ (Goes.of (KB.push _))) (by show vs.toArray.size ≤ sizeLine; rw [List.size_toArray]; exact hsz)
theorem lk86 : (KK w).lookup 86 = some { cls := .type "function", data := .func (fd 86) } := by kernel_rfl
theorem cd86 : codeIn (KK w) (fd 86).code (fd 86).qualname = true := by kernel_rfl
theorem bo86 : (fd 86).body = .stmts (bod 86) := by kernel_rfl

def PartJ (L D : Addr) (c : Nat) (k : Nat) (h : Heap) : Prop :=
  ∃ m vs pre tc, h.Ns L m ∧ m "choice" = some (.int (c : Int) tc) ∧ m "parts" = some (.ref D) ∧ h.PlainList D vs.toArray ∧ IntsAre vs (natI (pre ++ [k])) ∧ pre ++ k :: partsGo c k = partsOf c

theorem parts_ctr {c : Nat} {tc : Tok} {Q : Value → Shared → Prop} (sc : SC w s.heap) (ok : AOk A 4) (hc : c < 2 ^ 20)
    (h : ∀ s' D vs, Goes [] s s' → s.heap.get? D = none → s'.heap.PlainList D vs.toArray → IntsAre vs (natI (partsOf c)) → Q (.ref D) s') :
    wpAny (model prog w) A (call (.ref 86) [.int (c : Int) tc]) Q E s := by
  have hsl := sizeLine_eq
  refine callFd (k := 3) (binds := [("choice", .int (c : Int) tc)]) 86 sc ok lk86 cd86 bo86 (BindsTo.of_eq (by kernel_rfl)) (by decide +kernel) (locs (by kernel_rfl)) ?_ (by kernel_rfl) (by kernel_rfl) (by kernel_rfl)
  intro L s₁ m hL g hn hm ok'
  have ha : m "choice" = some (.int (c : Int) tc) := (hm _).trans (by kernel_rfl)
  clear hm
  refine wpAny_execs_cons (wpAny_Assign_Name (List_ (wpAny_items_cons ?_ (by kernel_rfl))) (by kernel_rfl))
  refine nmL hn ha ?_ ?_ ?_ ?_
  refine wpAny_items_nil (newListP (fun s₂ D hD hlD g₂ => ?_) ?_)
  have hDs : s.heap.get? D = none := by
    cases e : s.heap.get? D with
    | none => rfl
    | some o => rw [g.kb.all _ _ e] at hD; cases hD
  have hDL : D ≠ L := fun q => by
    obtain ⟨o, _, _, e, _⟩ := hn
    rw [q, e] at hD; cases hD
  have hn₂ := g₂.ns hn
  replace g₂ := g.trans g₂
  refine stL hn₂ (fun s₃ hn₃ g₃ => ?_) ?_ ?_
  replace g₃ : Goes [L] s₂ s₃ := g₃
  have hlD₃ := g₃.kb.plain hlD (by simpa using hDL)
  replace g₃ := g₂.loc hL g₃
  refine wpAny_execs_cons (whileInv [L, D] (PartJ L D c) c ⟨_, _, [], tc, hn₃, up_else (by decide +kernel) ha, up_same, hlD₃, .cons (c : Int) _ .nil, rfl⟩ ?_)
  rintro k s₄ E' ⟨m₄, vs, pre, tc', hn₄, hc₄, hp₄, hl₄, hi₄, he₄⟩ gl₄
  have hlen : vs.length = pre.length + 1 := by have := hi₄.length; simpa [natI] using this
  have hall : (partsOf c).length ≤ c + 1 := by have := partsGo_length c c; simp only [partsOf, List.length_cons]; omega
  have hpre : pre.length + 1 ≤ c + 1 := by rw [← he₄] at hall; simp only [List.length_append, List.length_cons] at hall; omega
  have g₄ : Goes [] s s₄ := g₃.locs (by simp [hL, hDs]) gl₄
  refine wpAny_isTrue_Compare1 (Subscript_ ?_) (by kernel_rfl)
  refine nmL hn₄ hp₄ ?_ ?_ ?_ ?_
  refine wpAny_UnaryOp (wpAny_Constant_int (neg_int ?_))
  have hlast : (natI (pre ++ [k])).getD (((-1 : Int) + (((natI (pre ++ [k])).length : Nat) : Int)).toNat) 0 = (k : Int) := by
    have e : ((-1 : Int) + (((natI (pre ++ [k])).length : Nat) : Int)).toNat = pre.length := by simp only [natI, List.length_map, List.length_append, List.length_singleton]; omega
    rw [e]
    simp [natI, List.getD]
  refine item_list_ints_neg hl₄.isList hi₄ (by omega) (by simp [natI]; omega) (by omega) (fun t => ?_) (by with_unfolding_all rfl)
  rw [hlast]
  refine wpAny_Constant_int (gt_int (wpAny_truthy_bool ?_))
  by_cases hk : k = 0
  · subst hk
    rw [decide_eq_false (by omega)]
    show wpAny _ _ (execs _ _) _ _ _
    refine wpAny_execs_cons (wpAny_Return_some ?_)
    refine nmL hn₄ hp₄ ?_ ?_ ?_ ?_
    refine h _ _ vs (g₄.trans (Goes.of (KB.refl _ _))) hDs hl₄ ?_
    rw [partsGo_zero] at he₄
    rw [← he₄]; exact hi₄
    all_goals walk_at "sd"
  · rw [decide_eq_true (by omega)]
    show wpAny _ _ (execs _ _) _ _ _
    refine wpAny_execs_cons (wpAny_Expr (MethodCall_ ?_) (by kernel_rfl) (by kernel_rfl))
    refine nmL hn₄ hp₄ ?_ ?_ ?_ ?_
    refine getAppend hl₄ ?_
    refine callWith_method1 (wpAny_items_cons (Call_ ?_ (by kernel_rfl)) (by kernel_rfl)) (by kernel_rfl) (by kernel_rfl)
    refine nmG (g₄.sc sc) (v := .ref 53) (by simp [gl]) ?_ ?_ ?_ ?_ ?_
    refine callWith_def (o := { cls := .type "function", data := .func (fd 53) }) rfl (wpAny_items_cons (wpAny_BinOp (Subscript_ ?_)) (by kernel_rfl)) (by kernel_rfl)
    refine nmL hn₄ hp₄ ?_ ?_ ?_ ?_
    refine wpAny_UnaryOp (wpAny_Constant_int (neg_int ?_))
    refine item_list_ints_neg hl₄.isList hi₄ (by omega) (by simp [natI]; omega) (by omega) (fun t => ?_) (by with_unfolding_all rfl)
    rw [hlast]
    refine wpAny_Constant_int (sub_int ?_)
    refine wpAny_items_cons ?_ (by kernel_rfl)
    refine nmL hn₄ hc₄ ?_ ?_ ?_ ?_
    refine wpAny_items_nil ⟨(g₄.sc sc).K _ _ lk53, ?_⟩
    refine and_ctr (g₄.sc sc) (ok'.mono (by decide)) fun s₅ t₅ g₅ => ?_
    have e5 : Builtin.bitAnd ((k : Int) - 1) (c : Int) = (((k - 1) &&& c : Nat) : Int) := by
      rw [bitAnd_pp (by omega) (by omega)]
      congr 1
      congr 1
      omega
    rw [e5]
    replace g₅ : Goes [] s₄ s₅ := Goes.trans (Goes.of (KB.refl _ _)) g₅
    have hn₅ := g₅.ns hn₄
    have hl₅ := g₅.kb.plain hl₄ (by simp)
    refine wpAny_items_nil ?_
    refine callAppend hl₅ (by omega) fun s₆ hl₆ g₆ => ?_
    refine wpAny_execs_nil ⟨g₅.any.trans (g₆.mono (by simp)), (k - 1) &&& c, ?_, m₄, _, pre ++ [k], tc', g₆.kb.ns hn₅ (by simpa using Ne.symm hDL), hc₄, hp₄, hl₆, ?_, ?_⟩
    · have := Nat.and_le_left (n := k - 1) (m := c); omega
    · have := IntsAre.append hi₄ (.cons (((k - 1) &&& c : Nat) : Int) t₅ .nil)
      simpa [natI] using this
    · rw [partsGo_pos c hk] at he₄
      simpa using he₄
    all_goals walk_at "sd"
  all_goals first | walk_at "sd" | (simp; omega)
end
end Mine
end

section
open PySem PySem.W PyProof.Rows PySem.Calls
set_option Elab.async false
set_option maxRecDepth 100000
set_option maxHeartbeats 4000000
namespace Mine
local macro_rules | `(tactic| walk_at "sd") => `(tactic| first | kernel_rfl | decide | rfl)
/-- the letters that a choice takes, the last ahead -/
def subR : List Str → Nat → List Str
  | [], _ => []
  | l :: rw, c => if c.testBit rw.length then l :: subR rw c else subR rw c
def repK : List Str → Nat → Nat
  | [], _ => 0
  | l :: rw, c => repK rw c + if c.testBit rw.length = true ∧ (subR rw c).head? = some l then 2 ^ rw.length else 0
/-- what «last» holds -/
def LastIs (o : Option Str) (v : Value) : Prop := match o with
  | none => v = .none
  | some l => ∃ t, v = .str l t
theorem bit_of (c k : Nat) : Builtin.bitAnd (Int.fdiv (c : Int) (2 ^ ((k : Int)).toNat)) 1 = if c.testBit k then 1 else 0 := by
  have e1 : ((k : Int)).toNat = k := by omega
  rw [e1]
  have e2 : Int.fdiv (c : Int) (2 ^ k) = ((c / 2 ^ k : Nat) : Int) := by
    rw [Int.fdiv_eq_ediv_of_nonneg _ (Int.le_of_lt (Int.pow_pos (by decide)))]
    simp
  rw [e2, bitAnd_m1, Nat.testBit_eq_decide_div_mod_eq]
  generalize c / 2 ^ k = q
  by_cases h : q % 2 = 1
  · rw [if_pos (by simp [h])]; omega
  · rw [if_neg (by simp [h])]; omega

section
variable {prog : Program} {w : World} {A : Around} {E : Value → Shared → Prop} {s : Shared}
theorem lk79 : (KK w).lookup 79 = some { cls := .type "function", data := .func (fd 79) } := by kernel_rfl
theorem cd79 : codeIn (KK w) (fd 79).code (fd 79).qualname = true := by kernel_rfl
theorem bo79 : (fd 79).body = .stmts (bod 79) := by kernel_rfl

def RepJ (L a : Addr) (ws : List Str) (c : Nat) (k : Nat) (h : Heap) : Prop :=
  ∃ m tc tk lv, h.Ns L m ∧ m "choice" = some (.int (c : Int) tc) ∧ m "word" = some (.ref a) ∧ m "kept" = some (.int ((repK (ws.take k).reverse c : Nat) : Int) tk) ∧ m "last" = some lv ∧ LastIs (subR (ws.take k).reverse c).head? lv

theorem rep_ctr {a : Addr} {vs : List Value} {ws : List Str} {c : Nat} {tc : Tok} {Q : Value → Shared → Prop} (sc : SC w s.heap) (ok : AOk A 4) (hc : c < 2 ^ 20) (hl : s.heap.IsList a vs.toArray) (hS : StrsAre vs ws) (hlen : ws.length ≤ 100)
    (h : ∀ s' t, Goes [] s s' → Q (.int ((repK ws.reverse c : Nat) : Int) t) s') :
    wpAny (model prog w) A (call (.ref 79) [.ref a, .int (c : Int) tc]) Q E s := by
  have hsl := sizeLine_eq
  have hvl := StrsAre.length hS
  refine callFd (k := 3) (binds := [("word", .ref a), ("choice", .int (c : Int) tc)]) 79 sc ok lk79 cd79 bo79 (BindsTo.of_eq (by kernel_rfl)) (by decide +kernel) (locs (by kernel_rfl)) ?_ (by kernel_rfl) (by kernel_rfl) (by kernel_rfl)
  intro L s₁ m hL g hn hm ok'
  have ha : m "word" = some (.ref a) := (hm _).trans (by kernel_rfl)
  have hch : m "choice" = some (.int (c : Int) tc) := (hm _).trans (by kernel_rfl)
  clear hm
  refine wpAny_execs_cons (wpAny_Assign_Name (wpAny_Constant_int (stL hn (fun s₂ hn₂ g₂ => ?_) ?_ ?_)) (by kernel_rfl))
  replace g₂ : Goes [L] s₁ s₂ := Goes.trans (Goes.of (KB.refl _ _)) g₂
  replace g₂ := g.loc hL g₂
  refine wpAny_execs_cons (wpAny_Assign_Name (wpAny_Constant_none (stL hn₂ (fun s₃ hn₃ g₃ => ?_) ?_ ?_)) (by kernel_rfl))
  replace g₃ : Goes [L] s₂ s₃ := g₃
  replace g₃ := g₂.loc hL g₃
  have hlw : ∀ b ∈ [L], ∃ o, s₃.heap.get? b = some o := by
    intro b hb
    rw [List.mem_singleton.mp hb]
    obtain ⟨o, _, _, e, _⟩ := hn₃
    exact ⟨o, e⟩
  refine wpAny_execs_cons (forRange (n := ws.length) [L] (RepJ L a ws c) ok'.hh (by omega) ?_ hlw
    ⟨_, tc, _, .none, hn₃, up_else (by decide +kernel) (up_else (by decide +kernel) hch), up_else (by decide +kernel) (up_else (by decide +kernel) ha), up_else (by decide +kernel) up_same, up_same, rfl⟩ ?_ ?_ ?_)
  · refine Call_ ?_ (by kernel_rfl)
    refine nmB (v := .type "range") (g₃.sc sc) (by simp [gl]) (by simp [bl]) ?_ ?_ ?_ ?_ ?_ ?_
    refine PyProof.Rows.callWith_type1 (wpAny_items_cons (Call_ ?_ (by kernel_rfl)) (by kernel_rfl)) (by kernel_rfl) (by kernel_rfl)
    refine nmB (v := .builtin "len") (g₃.sc sc) (by simp [gl]) (by simp [bl]) ?_ ?_ ?_ ?_ ?_ ?_
    refine PyProof.Rows.callWith_builtin1 (wpAny_items_cons ?_ (by kernel_rfl)) (by kernel_rfl) (by kernel_rfl)
    refine nmL hn₃ (up_else (by decide +kernel) (up_else (by decide +kernel) ha)) ?_ ?_ ?_ ?_
    refine wpAny_items_nil ?_
    refine call_len_list (g₃.list hl) (by rw [List.size_toArray]; omega) ?_
    refine wpAny_items_nil ?_
    refine call_range_1 ?_
    have hsz : ((vs.toArray.size : Nat) : Int) = (ws.length : Int) := by rw [List.size_toArray, hvl]
    rw [hsz]
    exact ⟨_, rfl, Goes.of (KB.push _), _, _, _, Heap.get?_push_size _ rfl⟩
    all_goals walk_at "sd"
  · rintro i h h' ⟨m', t1, t2, lv, q, r⟩ kf
    exact ⟨m', t1, t2, lv, kf.ns q, r⟩
  · rintro i t s₄ E' hi ⟨m₄, tc', tk', lv, hn₄, hc₄, hw₄, hk₄, hla₄, hlv⟩ g₄
    replace g₄ := g₃.loc hL g₄
    obtain ⟨y, hy⟩ : ∃ y, ws[i]? = some y := ⟨ws[i], by simp [hi]⟩
    obtain ⟨ty, hv⟩ := StrsAre.to hS hy
    have htake : (ws.take (i + 1)).reverse = y :: (ws.take i).reverse := by
      rw [List.take_add_one, hy]; simp
    have htl : (ws.take i).reverse.length = i := by simp; omega
    refine stL hn₄ (fun s₅ hn₅ g₅ => ?_) ?_ ?_
    replace g₅ : Goes [L] s₄ s₅ := g₅
    have gg₅ := g₄.loc hL g₅
    refine wpAny_execs_cons (wpAny_If (isTrue_plain (wpAny_BinOp (wpAny_BinOp ?_)) (by kernel_rfl)))
    refine nmL hn₅ (up_else (by decide +kernel) hc₄) ?_ ?_ ?_ ?_
    refine nmL hn₅ up_same ?_ ?_ ?_ ?_
    refine rshift_int (by omega) (wpAny_Constant_int (and_int (truthy_int ?_)))
    rw [bit_of]
    by_cases hb : c.testBit i
    · rw [if_pos hb]
      show wpAny _ _ (execs _ _) _ _ _
      have tail : ∀ (s₆ : Shared) (m₆ : Str → Option Value) (t₆ : Tok) (E' : Value → Shared → Prop), Goes [L] s₄ s₆ → s₆.heap.Ns L m₆ → m₆ "choice" = some (.int (c : Int) tc') → m₆ "word" = some (.ref a) → m₆ "k" = some (.int (i : Int) t) → m₆ "kept" = some (.int ((repK (ws.take (i + 1)).reverse c : Nat) : Int) t₆) →
          wpAny (model prog w) (A.deeper (callEnv (fd 79) L 79)) (execs ((match ((bod 79).drop 2).head? with | some (.For _ _ (.If _ b _ _ :: _) _ _) => b | _ => []).drop 1) (callEnv (fd 79) L 79))
            (fun f s' => f = .next ∧ Goes [L] s₄ s' ∧ RepJ L a ws c (i + 1) s'.heap) E' s₆ := by
        intro s₆ m₆ t₆ E' g₆ hn₆ h1 h2 h3 h4
        have gg₆ := g₄.loc hL g₆
        refine wpAny_execs_cons (wpAny_Assign_Name (Subscript_ ?_) (by kernel_rfl))
        refine nmL hn₆ h2 ?_ ?_ ?_ ?_
        refine nmL hn₆ h3 ?_ ?_ ?_ ?_
        refine item_listR (gg₆.list hl) (by omega) (by omega) (x := .str y ty) (by simpa using hv) ?_ (by with_unfolding_all rfl)
        refine stL hn₆ (fun s₇ hn₇ g₇ => ?_) ?_ ?_
        refine wpAny_execs_nil ⟨rfl, g₆.trans g₇, _, tc', t₆, _, hn₇, up_else (by decide +kernel) h1, up_else (by decide +kernel) h2, up_else (by decide +kernel) h4, up_same, ?_⟩
        rw [htake]
        unfold subR
        rw [htl, if_pos hb]
        exact ⟨ty, rfl⟩
        all_goals walk_at "sd"
      have fin : ∀ {f : Flow} {s' : Shared}, (f = .next ∧ Goes [L] s₄ s' ∧ RepJ L a ws c (i + 1) s'.heap) → ∀ {Q' : Flow → Shared → Prop}, (match f with | .next => wpAny (model prog w) (A.deeper (callEnv (fd 79) L 79)) (execs [] (callEnv (fd 79) L 79)) (Turn [L] (RepJ L a ws c (i + 1)) Q' s₄) E' s' | f => Turn [L] (RepJ L a ws c (i + 1)) Q' s₄ f s') := by
        rintro f s' ⟨rfl, g', j'⟩ Q'
        exact wpAny_execs_nil ⟨g', j'⟩
      refine wpAny_execs_cons (wpAny_If (wpAny_isTrue_Compare1 (Subscript_ ?_) (by kernel_rfl)))
      refine nmL hn₅ (up_else (by decide +kernel) hw₄) ?_ ?_ ?_ ?_
      refine nmL hn₅ up_same ?_ ?_ ?_ ?_
      refine item_listR (gg₅.list hl) (by omega) (by omega) (x := .str y ty) (by simpa using hv) ?_ (by with_unfolding_all rfl)
      refine nmL hn₅ (up_else (by decide +kernel) hla₄) ?_ ?_ ?_ ?_
      have hrep : repK (ws.take (i + 1)).reverse c = repK (ws.take i).reverse c + if (subR (ws.take i).reverse c).head? = some y then 2 ^ i else 0 := by
        rw [htake]
        show repK (ws.take i).reverse c + (if c.testBit (ws.take i).reverse.length = true ∧ _ then 2 ^ (ws.take i).reverse.length else 0) = _
        rw [htl]
        simp [hb]
      cases ho : (subR (ws.take i).reverse c).head? with
      | none =>
        rw [ho] at hlv hrep
        obtain rfl : lv = .none := hlv
        refine EqNone.eq_str_none (wpAny_truthy_bool ?_)
        show wpAny _ _ (execs _ _) _ _ _
        refine wpAny_execs_nil ?_
        refine wpAny_mono (tail _ _ tk' _ (g₅.trans (Goes.of (KB.refl _ _))) hn₅ (up_else (by decide +kernel) hc₄) (up_else (by decide +kernel) hw₄) up_same (by rw [hrep]; simpa using up_else (by decide +kernel) hk₄)) (fun f s' hf => fin hf) fun _ _ e => e
      | some l =>
        rw [ho] at hlv hrep
        obtain ⟨tl, rfl⟩ := hlv
        refine PyProof.Rows.eq_str (wpAny_truthy_bool ?_)
        by_cases hyl : y = l
        · subst hyl
          rw [beq_self_eq_true]
          show wpAny _ _ (execs _ _) _ _ _
          refine wpAny_execs_cons (wpAny_AugAssign_Name (wpAny_loadName_local ?_ ?_ hn₅ (up_else (by decide +kernel) hk₄) ?_))
          rotate_left 2
          refine wpAny_BinOp (wpAny_Constant_int ?_)
          refine nmL hn₅ up_same ?_ ?_ ?_ ?_
          refine lshift_int_small (by omega) (by omega) (by decide) (iadd_int ?_)
          have e6 : ((repK (ws.take i).reverse c : Nat) : Int) + 1 * 2 ^ ((i : Int)).toNat = ((repK (ws.take (i + 1)).reverse c : Nat) : Int) := by
            rw [hrep, if_pos rfl]
            have : ((i : Int)).toNat = i := by omega
            rw [this]
            simp
          rw [e6]
          refine stL hn₅ (fun s₆ hn₆ g₆ => ?_) ?_ ?_
          replace g₆ : Goes [L] s₄ s₆ := g₅.trans (Goes.trans (Goes.of (KB.refl _ _)) g₆)
          refine wpAny_execs_nil ?_
          refine wpAny_mono (tail s₆ _ _ _ g₆ hn₆ (up_else (by decide +kernel) (up_else (by decide +kernel) hc₄)) (up_else (by decide +kernel) (up_else (by decide +kernel) hw₄)) (up_else (by decide +kernel) up_same) up_same) (fun f s' hf => fin hf) fun _ _ e => e
          all_goals walk_at "sd"
        · rw [beq_false_of_ne hyl]
          show wpAny _ _ (execs _ _) _ _ _
          refine wpAny_execs_nil ?_
          refine wpAny_mono (tail _ _ tk' _ (g₅.trans (Goes.of (KB.refl _ _))) hn₅ (up_else (by decide +kernel) hc₄) (up_else (by decide +kernel) hw₄) up_same (by rw [hrep, if_neg (fun q => hyl (Option.some.inj q).symm)]; simpa using up_else (by decide +kernel) hk₄)) (fun f s' hf => fin hf) fun _ _ e => e
      all_goals walk_at "sd"
    · rw [if_neg hb]
      show wpAny _ _ (execs _ _) _ _ _
      refine wpAny_execs_nil (wpAny_execs_nil ⟨g₅.trans (Goes.of (KB.refl _ _)), _, tc', tk', lv, hn₅, up_else (by decide +kernel) hc₄, up_else (by decide +kernel) hw₄, ?_, up_else (by decide +kernel) hla₄, ?_⟩)
      · have : repK (ws.take (i + 1)).reverse c = repK (ws.take i).reverse c := by
          rw [htake]
          show repK (ws.take i).reverse c + (if c.testBit (ws.take i).reverse.length = true ∧ _ then 2 ^ (ws.take i).reverse.length else 0) = _
          rw [htl, if_neg (fun q => hb q.1)]
          rfl
        rw [this]
        exact up_else (by decide +kernel) hk₄
      · rw [htake]
        unfold subR
        rw [htl, if_neg hb]
        exact hlv
    all_goals walk_at "sd"
  · rintro s₄ ⟨m₄, tc', tk', lv, hn₄, hc₄, hw₄, hk₄, hla₄, hlv⟩ g₄
    replace g₄ := g₃.loc hL g₄
    refine wpAny_execs_cons (wpAny_Return_some ?_)
    refine nmL hn₄ hk₄ ?_ ?_ ?_ ?_
    rw [List.take_length]
    exact h _ _ g₄
    all_goals walk_at "sd"
  all_goals walk_at "sd"
end
end Mine
end

section
open PySem PySem.W PyProof.Rows PySem.Calls
set_option Elab.async false
set_option maxRecDepth 100000
set_option maxHeartbeats 4000000
namespace Mine
/-- all but three -/
def KD (D C I : Addr) (h h' : Heap) : Prop := ∀ b o, b ≠ D → b ≠ C → b ≠ I → h.get? b = some o → h'.get? b = some o

section
variable {prog : Program} {w : World} {A : Around} {E : Value → Shared → Prop} {s : Shared} {env : Env}

/-- one turn: the tests, the element -/
def CompTurn (prog : Program) (w : World) (A : Around) (cenv : Env) (ifs : List Expr) (elt : Expr) (J0 : Heap → Prop) (J1 : Value → Heap → Prop) (E' : Value → Shared → Prop) (s₃ : Shared) : Prop :=
  wpAny (model prog w) A (forIn ifs true fun c r => if r = true then do let ok ← isTrue c cenv (eval c cenv); pure (ForInStep.yield ok) else pure (ForInStep.yield r))
    (fun ok s₄ => Goes [] s₃ s₄ ∧ if ok = true then wpAny (model prog w) A (eval elt cenv) (fun y s₅ => Goes [] s₄ s₅ ∧ J1 y s₅.heap) E' s₄ else J0 s₄.heap) E' s₃

theorem compLoopInv {elt iter : Expr} {x : Str} {px : Pos} {ifs : List Expr} {scope : Scope} {pos : Pos} {I D : Addr} {fp : List Addr} {n : Nat} {P : Nat → Value → Prop} {St : Nat → Heap → Prop} {R : Result → Shared → Prop}
    {cenv : Env} {m : Str → Option Value} (W : Walks prog w A I fp [I] n P St) (J : Nat → List Value → Heap → Prop) (s₀ : Shared)
    (hx : cenv.kindOf x = some .local) (hp : cenv.scope.kind = .function)
    (hDI : D ≠ I) (hDC : D ≠ cenv.locals) (hIC : I ≠ cenv.locals) (hDf : D ∉ fp) (hCf : cenv.locals ∉ fp)
    (hD0 : s₀.heap.get? D = none) (hC0 : s₀.heap.get? cenv.locals = none) (hI0 : s₀.heap.get? I = none) (hg : Goes [] s₀ s)
    (hst : St 0 s.heap) (hacc : s.heap.PlainList D #[]) (hn : s.heap.Ns cenv.locals m) (hI : ∀ i h, St i h → ∃ o, h.get? I = some o) (hsz : n ≤ sizeLine)
    (j0 : J 0 [] s.heap) (stab : ∀ i ys h h', J i ys h → KD D cenv.locals I h h' → J i ys h')
    (turn : ∀ i v ys s₃ m₃ E', i < n → P i v → J i ys s₃.heap → s₃.heap.Ns cenv.locals m₃ → m₃ x = some v → Goes [] s₀ s₃ → (∃ o, s₃.heap.get? D = some o) → (∃ o, s₃.heap.get? I = some o) →
      CompTurn prog w A cenv ifs elt (J (i + 1) ys) (fun y => J (i + 1) (ys ++ [y])) E' s₃)
    (hR : ∀ s' m' (ys : List Value), s'.heap.Ns cenv.locals m' → s'.heap.PlainList D ys.toArray → J n ys s'.heap → Goes [] s₀ s' → R (.ok .next) s') :
    codeAny (model prog w) A (.compLoop (.ListComp elt [⟨.Name x px, iter, ifs, 0⟩] scope pos) 0 (.ref I) (.ref D) cenv) R s := by
  refine codeAny_compLoop_tests
    (fun k s' => ∃ i m', ∃ ys : List Value, Goes [] s₀ s' ∧ St i s'.heap ∧ s'.heap.PlainList D ys.toArray ∧ s'.heap.Ns cenv.locals m' ∧ J i ys s'.heap ∧ i ≤ n ∧ ys.length ≤ i ∧ k = n + 1 - i) ?_ (n + 1)
    ⟨0, m, [], hg, hst, hacc, hn, j0, Nat.zero_le _, Nat.le_refl _, rfl⟩
  rintro k s' ⟨i, m', ys, g, st, hl, hn', j, hi, hy, rfl⟩
  by_cases hlt : i < n
  · refine W.item i _ _ _ hlt st fun v h₁ tk₁ hP st₁ k₁ => ?_
    have k₁' : ∀ b o, b ≠ I → s'.heap.get? b = some o → h₁.get? b = some o := fun b o n e => k₁ b o (by simpa using n) e
    have g₁ : Goes [] s₀ { s' with heap := h₁, toks := tk₁ } := g.locs (W := [I]) (by simp [hI0]) (Goes.of k₁)
    refine wpAny_assign_Name (wpAny_storeName_local hx (hn'.at' fun o e => k₁' _ o (Ne.symm hIC) e) (fun h₂ hn₂ hs₂ => ?_) (by rw [hp]; rfl))
    have g₂ : Goes [] s₀ { s' with heap := h₂, toks := tk₁ + 1 } := g₁.locs (W := [cenv.locals]) (by simp [hC0]) (Goes.of (KB.same hs₂ (by simp)))
    have st₂ : St (i + 1) h₂ := W.frame _ _ _ st₁ fun b hb o e => hs₂.extBut b o (fun q => hCf (q ▸ hb)) e
    have j₂ : J i ys h₂ := stab _ _ _ _ j fun b o n1 n2 n3 e => hs₂.extBut b o n2 (k₁' b o n3 e)
    have hl₂ : h₂.PlainList D ys.toArray := hl.at fun o e => hs₂.extBut D o hDC (k₁' D o hDI e)
    refine wpAny_mono (turn i v ys { s' with heap := h₂, toks := tk₁ + 1 } _ _ hlt hP j₂ hn₂ (by simp) g₂ ⟨_, hl₂.choose_spec⟩ (hI _ _ st₂)) (fun ok s₃ h₃ => ?_) fun _ _ e => e
    obtain ⟨g₃, h₃⟩ := h₃
    have hn₃ := g₃.ns hn₂
    have hl₃ := g₃.kb.plain hl₂ (by simp)
    have st₃ : St (i + 1) s₃.heap := W.frame _ _ _ st₂ fun b _ o e => g₃.kb.all b o e
    cases ok with
    | false =>
      simp only [Bool.false_eq_true, if_false] at h₃ ⊢
      exact ⟨n + 1 - (i + 1), by omega, i + 1, _, ys, g₂.trans g₃, st₃, hl₃, hn₃, h₃, hlt, by omega, rfl⟩
    | true =>
      simp only [if_true] at h₃ ⊢
      refine wpAny_mono h₃ (fun y s₄ h₄ => ?_) fun _ _ e => e
      obtain ⟨g₄, j₄⟩ := h₄
      have hl₄ := g₄.kb.plain hl₃ (by simp)
      refine callAppend hl₄ (by omega) fun s₅ hl₅ g₅ => ?_
      have k₅ : ∀ b o, b ≠ D → s₄.heap.get? b = some o → s₅.heap.get? b = some o := fun b o n e => g₅.kb b o (by simpa using n) e
      refine ⟨n + 1 - (i + 1), by omega, i + 1, _, ys ++ [y], ((g₂.trans g₃).trans g₄).locs (W := [D]) (by simp [hD0]) g₅, ?_, hl₅, (g₄.ns hn₃).at' fun o e => k₅ _ o (Ne.symm hDC) e, ?_, hlt, by simp; omega, rfl⟩
      · exact W.frame _ _ _ st₃ fun b hb o e => k₅ b o (fun q => hDf (q ▸ hb)) (g₄.kb.all b o e)
      · exact stab _ _ _ _ j₄ fun b o n1 _ _ e => k₅ b o n1 e
  · obtain rfl : i = n := Nat.le_antisymm hi (Nat.not_lt.mp hlt)
    refine W.done _ _ _ st fun h₁ tk₁ k₁ => ?_
    have k₁' : ∀ b o, b ≠ I → s'.heap.get? b = some o → h₁.get? b = some o := fun b o n e => k₁ b o (by simpa using n) e
    exact hR _ m' ys (hn'.at' fun o e => k₁' _ o (Ne.symm hIC) e) (hl.at fun o e => k₁' D o hDI e) (stab _ _ _ _ j fun b o _ _ n e => k₁' b o n e) (g.locs (W := [I]) (by simp [hI0]) (Goes.of k₁))

/-- a comprehension's own two objects: the list and the frame -/
theorem compOwn {scope : Scope} {cl : List (Str × Addr)} {G : Value → Env → Shared → Prop} (hcell : ∀ y ∈ scope.names, y.2 ≠ .cell) (hkind : scope.kind = .function)
    (h : ∀ D C s' m cenv, s.heap.get? D = none → s.heap.get? C = none → D ≠ C → s'.heap.PlainList D ([] : List Value).toArray → s'.heap.Ns C m → Goes [] s s' →
      ({ cenv with scope := relabel scope env } : Env) = compEnvC scope cl C env → cenv.locals = C → G (.ref D) cenv s') :
    wpAny (model prog w) A (newList []) (fun acc => wpAny (model prog w) A (newFunctionEnv scope env.globals cl [] env.qual none .none (some env)) (G acc) E) E s := by
  refine newListP (fun s₁ D hD lD g₁ => ?_) (by simp)
  have fr := free_size s₁.heap
  refine wpAny_newFunctionEnv hcell (fun _ q => nomatch q) (fun h' nC same => ?_) hkind
  have g₂ : Goes [] s₁ { s₁ with heap := h', toks := s₁.toks } := Goes.of (KB.of fun b o e => same.extBut b o (fun q => by rw [q, fr] at e; cases e) (Heap.get?_push_of_some _ e))
  refine h D _ _ _ _ hD ?_ ?_ (g₂.kb.plain lD (by simp)) nC (g₁.trans g₂) rfl rfl
  · cases e : s.heap.get? s₁.heap.objs.size with
    | none => rfl
    | some o => rw [g₁.kb.all _ _ e] at fr; cases fr
  · intro q
    obtain ⟨_, e⟩ := lD
    rw [q, fr] at e; cases e

/-- the block behind the first iterator -/
theorem compBlock {elt iter : Expr} {x : Str} {px : Pos} {ifs : List Expr} {scope : Scope} {cl : List (Str × Addr)} {pos : Pos} {s₀ s₂ : Shared} {I : Addr} {fp : List Addr} {n : Nat} {P : Nat → Value → Prop}
    {St : Nat → Heap → Prop} (W : Walks prog w A I fp [I] n P St) (J : Addr → Addr → Nat → List Value → Heap → Prop) {RR : Value → Addr → Result → Shared → Prop}
    (hg : Goes [] s₀ s₂) (hI0 : s₀.heap.get? I = none) (hI : ∀ i h, St i h → ∃ o, h.get? I = some o) (hsz : n ≤ sizeLine)
    (hcell : ∀ y ∈ scope.names, y.2 ≠ .cell) (hkind : scope.kind = .function) (hx : scope.names.lookup x = some .local) (hst : St 0 s₂.heap) (hfp : ∀ b ∈ fp, ∃ o, s₂.heap.get? b = some o)
    (j0 : ∀ D C h, J D C 0 [] h) (stab : ∀ D C i ys h h', J D C i ys h → KD D C I h h' → J D C i ys h')
    (turn : ∀ D C i v ys s₃ m₃ E', i < n → P i v → J D C i ys s₃.heap → s₃.heap.Ns C m₃ → m₃ x = some v → Goes [] s₀ s₃ → (∃ o, s₃.heap.get? D = some o) → (∃ o, s₃.heap.get? I = some o) →
      CompTurn prog w A (compEnvC scope cl C env) ifs elt (J D C (i + 1) ys) (fun y => J D C (i + 1) (ys ++ [y])) E' s₃)
    (hRR : ∀ D C s' m' (ys : List Value), s₀.heap.get? D = none → s₀.heap.get? C = none → D ≠ C → s'.heap.Ns C m' → s'.heap.PlainList D ys.toArray → J D C n ys s'.heap → Goes [] s₀ s' → RR (.ref D) C (.ok .next) s') :
    wpAny (model prog w) A (newList []) (fun acc => wpAny (model prog w) A (newFunctionEnv scope env.globals cl [] env.qual none .none (some env)) (fun cenv =>
      codeAny (model prog w) A (.compStart (.ListComp elt [⟨.Name x px, iter, ifs, 0⟩] scope pos) 0 (.ref I) acc { cenv with scope := relabel scope env }) (RR acc cenv.locals)) E) E s₂ := by
  refine compOwn hcell hkind fun D C s₃ m cenv hD hC hDC lD nC g₃ he hl => ?_
  rw [he, hl]
  have st₃ : St 0 s₃.heap := W.frame _ _ _ hst fun b _ o e => g₃.kb.all b o e
  have off : ∀ {Z : Addr}, s₂.heap.get? Z = none → Z ∉ fp := fun {Z} f q => by
    obtain ⟨o, e⟩ := hfp _ q
    rw [f] at e; cases e
  have offI : ∀ {Z : Addr}, s₂.heap.get? Z = none → Z ≠ I := fun {Z} f q => by
    obtain ⟨o, e⟩ := hI _ _ hst
    rw [← q, f] at e; cases e
  have back : ∀ {Z : Addr}, s₂.heap.get? Z = none → s₀.heap.get? Z = none := fun {Z} f => by
    cases e : s₀.heap.get? Z with
    | none => rfl
    | some o => rw [hg.kb.all _ _ e] at f; cases f
  have run := compLoopInv (elt := elt) (iter := iter) (px := px) (ifs := ifs) (scope := scope) (pos := pos) (R := RR (.ref D) C) (cenv := compEnvC scope cl C env) W (J D C) s₀ (lookup_relabel_local hx) hkind (offI hD) hDC (Ne.symm (offI hC)) (off hD) (off hC)
    (back hD) (back hC) hI0 (hg.trans g₃) st₃ lD nC hI hsz (j0 _ _ _) (stab _ _) (turn _ _) fun s' m' ys a b c d => hRR _ _ s' m' ys (back hD) (back hC) hDC a b c d
  exact codeAny_compStart_list run (W.self 0 _ _ _ st₃ run)

/-- a source: what its iterator walks -/
structure Src (prog : Program) (w : World) (A : Around) (s₀ : Shared) (n : Nat) (P : Nat → Value → Prop) (it : Value) (s₂ : Shared) : Prop where
  go : ∃ I fp St, it = .ref I ∧ Walks prog w A I fp [I] n P St ∧ Goes [] s₀ s₂ ∧ s₀.heap.get? I = none ∧ (∀ i h, St i h → ∃ o, h.get? I = some o) ∧ St 0 s₂.heap ∧ (∀ b ∈ fp, ∃ o, s₂.heap.get? b = some o)

theorem src_new {s₀ s₁ : Shared} (g : Goes [] s₀ s₁) : s₀.heap.get? s₁.heap.objs.size = none := by
  have fr := free_size s₁.heap
  cases e : s₀.heap.get? s₁.heap.objs.size with
  | none => rfl
  | some o => rw [g.kb.all _ _ e] at fr; cases fr
theorem src_list {l : Addr} {items : Array Value} {s₀ s₁ : Shared} (hh : A.handled = none) (g : Goes [] s₀ s₁) (hl : s₁.heap.IsList l items) :
    wpAny (model prog w) A (pyIter (.ref l)) (Src prog w A s₀ items.size (fun i v => items[i]? = some v)) E s₁ := by
  refine wpAny_pyIter_list hl ⟨s₁.heap.objs.size, _, _, rfl, Walks.list hh s₁.heap.objs.size l ?_ items, g.trans (Goes.of (KB.push _)), src_new g, (fun i h st => by obtain ⟨o, e, _⟩ := st.1; exact ⟨o, e⟩), ⟨⟨_, Heap.get?_push_size _ rfl, rfl, rfl⟩, hl.push _⟩, ?_⟩
  · obtain ⟨o, e, _⟩ := hl; exact Nat.ne_of_lt (Heap.lt_size e)
  · intro b hb
    rcases List.mem_cons.mp hb with rfl | hb
    · exact ⟨_, Heap.get?_push_size _ rfl⟩
    · rw [List.mem_singleton.mp hb]
      obtain ⟨o, e, _⟩ := hl
      exact ⟨o, Heap.get?_push_of_some _ e⟩
theorem src_range {r : Addr} {n : Nat} {t u z : Tok} {s₀ s₁ : Shared} (hh : A.handled = none) (g : Goes [] s₀ s₁) (hr : IsRange s₁.heap r 0 n 1 t u z) (hn : n < 2 ^ 60) :
    wpAny (model prog w) A (pyIter (.ref r)) (Src prog w A s₀ n (fun i v => ∃ t, v = .int (i : Int) t)) E s₁ := by
  have hsz : Builtin.Range.rangeSize 0 (n : Int) 1 = (n : Int) := by
    simp [Builtin.Range.rangeSize]
    omega
  have hsm : Builtin.Range.small 0 (n : Int) 1 = true := by
    have hf : ∀ k : Int, 0 ≤ k → k ≤ 2 ^ 60 → Builtin.Range.rangeFitsLong k = true := by
      intro k h0 h1
      simp [Builtin.Range.rangeFitsLong]
      omega
    unfold Builtin.Range.small
    rw [hsz, hf 0 (by omega) (by omega), hf n (by omega) (by omega), hf 1 (by omega) (by omega)]
    simp
    right
    exact hf n (by omega) (by omega)
  have W := LCg.range_walks (prog := prog) (w := w) (A := A) (I := s₁.heap.objs.size) hh 0 n
  have W' : Walks prog w A s₁.heap.objs.size [s₁.heap.objs.size] [s₁.heap.objs.size] n (fun i v => ∃ t, v = .int (i : Int) t) (fun i h => IsRangeIter h s₁.heap.objs.size (0 + (i : Nat) * 1) ((n : Int) - (i : Nat)) 1) :=
    { W with item := fun i s Q E hi st hQ => W.item i s Q E hi st fun v h' tk hP => hQ v h' tk (by obtain ⟨t, rfl⟩ := hP; exact ⟨t, by rw [Int.zero_add]⟩) }
  refine wpAny_pyIter_range hr hsm ⟨s₁.heap.objs.size, _, _, rfl, W', g.trans (Goes.of (KB.push _)), src_new g, (fun i h st => by have st' : h.get? _ = some _ := st; exact ⟨_, st'⟩), ?_, ?_⟩
  · show IsRangeIter _ _ _ _ _
    rw [hsz]
    simpa using Heap.get?_push_size _ rfl
  · intro b hb
    rw [List.mem_singleton.mp hb]
    exact ⟨_, Heap.get?_push_size _ rfl⟩

/-- the whole of a comprehension, whatever is done with its list -/
theorem compRun {elt iter : Expr} {x : Str} {px : Pos} {ifs : List Expr} {scope : Scope} {cl : List (Str × Addr)} {pos fpos : Pos} {use : Option (Value → Sem Unit)} {Q : Value → Shared → Prop} {n : Nat} {P : Nat → Value → Prop} (J : Addr → Addr → Addr → Nat → List Value → Heap → Prop)
    (hclos : closureFor scope env = pure cl) (hcell : ∀ y ∈ scope.names, y.2 ≠ .cell) (hkind : scope.kind = .function)
    (hnames : ∀ y ∈ scope.names, y.2 = .local → scope.names.lookup y.1 = some .local) (hx : scope.names.lookup x = some .local) (hsz : n ≤ sizeLine)
    (h : wpAny (model prog w) A (eval iter env) (fun xv s₁ => wpAny (model prog w) A (pyIter xv) (Src prog w A s n P) E s₁) E s)
    (j0 : ∀ D C I h, J D C I 0 [] h) (stab : ∀ D C I i ys h h', J D C I i ys h → KD D C I h h' → J D C I i ys h')
    (turn : ∀ D C I i v ys s₃ m₃ E', i < n → P i v → J D C I i ys s₃.heap → s₃.heap.Ns C m₃ → m₃ x = some v → Goes [] s s₃ → (∃ o, s₃.heap.get? D = some o) → (∃ o, s₃.heap.get? I = some o) →
      CompTurn prog w A (compEnvC scope cl C env) ifs elt (J D C I (i + 1) ys) (fun y => J D C I (i + 1) (ys ++ [y])) E' s₃)
    (post : ∀ D C I s' m' (ys : List Value), s.heap.get? D = none → s.heap.get? C = none → D ≠ C → s'.heap.Ns C m' → s'.heap.PlainList D ys.toArray → J D C I n ys s'.heap → Goes [] s s' → compPost (model prog w) A E use Q (.ref D) C (.ok .next) s')
    (hs : ∀ x, foldedSetIterable iter env x = pure x) :
    wpAny (model prog w) A (comprehension (.ListComp elt [⟨.Name x px, iter, ifs, 0⟩] scope pos) scope env fpos (newList []) false (eval iter env) use) Q E s := by
  apply wpAny_comprehension_free rfl hs hclos hkind hnames
  refine wpAny_mono h (fun xv s₁ q => wpAny_mono q ?_ fun _ _ e => e) fun _ _ e => e
  rintro it s₂ ⟨I, fp, St, rfl, W, g, hI0, hI, st, hfp⟩
  exact compBlock W (fun D C => J D C I) g hI0 hI hsz hcell hkind hx st hfp (fun D C => j0 D C I) (fun D C => stab D C I) (fun D C => turn D C I) fun D C s' m' ys => post D C I s' m' ys

theorem compE {elt iter : Expr} {x : Str} {px : Pos} {ifs : List Expr} {scope : Scope} {cl : List (Str × Addr)} {pos : Pos} {Q : Value → Shared → Prop} {n : Nat} {P : Nat → Value → Prop} (J : Addr → Addr → Addr → Nat → List Value → Heap → Prop)
    (hclos : closureFor scope env = pure cl) (hcell : ∀ y ∈ scope.names, y.2 ≠ .cell) (hkind : scope.kind = .function)
    (hnames : ∀ y ∈ scope.names, y.2 = .local → scope.names.lookup y.1 = some .local) (hx : scope.names.lookup x = some .local) (hsz : n ≤ sizeLine)
    (h : wpAny (model prog w) A (eval iter env) (fun xv s₁ => wpAny (model prog w) A (pyIter xv) (Src prog w A s n P) E s₁) E s)
    (j0 : ∀ D C I h, J D C I 0 [] h) (stab : ∀ D C I i ys h h', J D C I i ys h → KD D C I h h' → J D C I i ys h')
    (turn : ∀ D C I i v ys s₃ m₃ E', i < n → P i v → J D C I i ys s₃.heap → s₃.heap.Ns C m₃ → m₃ x = some v → Goes [] s s₃ → (∃ o, s₃.heap.get? D = some o) → (∃ o, s₃.heap.get? I = some o) →
      CompTurn prog w A (compEnvC scope cl C env) ifs elt (J D C I (i + 1) ys) (fun y => J D C I (i + 1) (ys ++ [y])) E' s₃)
    (hQ : ∀ D C I s' (ys : List Value), s.heap.get? D = none → s'.heap.PlainList D ys.toArray → J D C I n ys s'.heap → Goes [] s s' → Q (.ref D) s')
    (hs : ∀ x, foldedSetIterable iter env x = pure x := by intro _; rfl) :
    wpAny (model prog w) A (eval (.ListComp elt [⟨.Name x px, iter, ifs, 0⟩] scope pos) env) Q E s := by
  rw [eval_ListComp]
  refine compRun J hclos hcell hkind hnames hx hsz h j0 stab turn (fun D C I s' m' ys hD hC hDC hn hl hj hg => ?_) hs
  refine ⟨m', hn, fun h'' same => ?_⟩
  have kb : ∀ b o, b ≠ C → s'.heap.get? b = some o → h''.get? b = some o := fun b o n e => same.extBut b o n e
  exact hQ D C I _ ys hD (hl.at fun o e => kb D o hDC e) (stab _ _ _ _ _ _ _ hj fun b o _ n2 _ e => kb b o n2 e) (hg.locs (W := [C]) (by simp [hC]) (Goes.of (KB.same same (by simp))))

theorem compA {elt iter : Expr} {x y : Str} {px py : Pos} {ifs : List Expr} {scope : Scope} {cl : List (Str × Addr)} {pos spos : Pos} {Q : Flow → Shared → Prop} {n : Nat} {P : Nat → Value → Prop} {m : Str → Option Value} (J : Addr → Addr → Addr → Nat → List Value → Heap → Prop)
    (hsw : swapsWith (.ListComp elt [⟨.Name x px, iter, ifs, 0⟩] scope pos) (some (.Name y py)) spos.line env = pure true)
    (hclos : closureFor scope env = pure cl) (hcell : ∀ y ∈ scope.names, y.2 ≠ .cell) (hkind : scope.kind = .function)
    (hnames : ∀ y ∈ scope.names, y.2 = .local → scope.names.lookup y.1 = some .local) (hx : scope.names.lookup x = some .local) (hsz : n ≤ sizeLine)
    (hy : env.kindOf y = some .local) (hek : env.scope.kind = .function) (hn : s.heap.Ns env.locals m)
    (h : wpAny (model prog w) A (eval iter env) (fun xv s₁ => wpAny (model prog w) A (pyIter xv) (Src prog w A s n P) E s₁) E s)
    (j0 : ∀ D C I h, J D C I 0 [] h) (stab : ∀ D C I i ys h h', J D C I i ys h → KD D C I h h' → J D C I i ys h')
    (turn : ∀ D C I i v ys s₃ m₃ E', i < n → P i v → J D C I i ys s₃.heap → s₃.heap.Ns C m₃ → m₃ x = some v → Goes [] s s₃ → (∃ o, s₃.heap.get? D = some o) → (∃ o, s₃.heap.get? I = some o) →
      CompTurn prog w A (compEnvC scope cl C env) ifs elt (J D C I (i + 1) ys) (fun y => J D C I (i + 1) (ys ++ [y])) E' s₃)
    (hQ : ∀ D C I s₁ s' (ys : List Value), s.heap.get? D = none → s.heap.get? C = none → D ≠ C → D ≠ env.locals → s₁.heap.PlainList D ys.toArray → J D C I n ys s₁.heap → Goes [] s s₁ → Goes [env.locals, C] s₁ s' → s'.heap.Ns env.locals (up m y (.ref D)) → Q .next s')
    (hs : ∀ x, foldedSetIterable iter env x = pure x := by intro _; rfl) :
    wpAny (model prog w) A (exec (.Assign [.Name y py] (.ListComp elt [⟨.Name x px, iter, ifs, 0⟩] scope pos) spos) env) Q E s := by
  rw [exec_Assign_Name_used _ _ _ _ hsw]
  refine wpAny_bind (wpAny_standAt (wpAny_bind (wpAny_bind (wpAny_mono (compRun (Q := fun _ s' => Q .next s') J hclos hcell hkind hnames hx hsz h j0 stab turn (fun D C I s' m' ys hD hC hDC hnC hl hj hg => ?_) hs) (fun _ _ q => wpAny_pure (wpAny_pure q)) fun _ _ e => e))))
  have hn' := hg.ns hn
  have nL : ∀ {Z : Addr}, s.heap.get? Z = none → Z ≠ env.locals := fun {Z} f q => by
    obtain ⟨o, _, _, e, _⟩ := hn
    rw [← q, f] at e; cases e
  refine wpAny_assign_Name (stL hn' (fun s₂ hn₂ g₂ => ?_) hek hy)
  have hC₂ := g₂.kb.ns hnC (by simpa using nL hC)
  refine ⟨m', hC₂, fun h₃ same => ?_⟩
  exact hQ D C I s' _ ys hD hC hDC (nL hD) hl hj hg ((g₂.mono (by simp)).trans (Goes.of (KB.same same (by simp)))) (hn₂.sameBut same (Ne.symm (nL hC)))
end
end Mine
end

section
open PySem PySem.W PyProof.Rows PySem.Calls
set_option Elab.async false
set_option maxRecDepth 100000
set_option maxHeartbeats 4000000
namespace Mine
/-- a turn over the last clause, written out -/
theorem compTurn_in (elt target iter : Expr) (g0 : Comprehension) (scope : Scope) (pos : Pos) (it acc : Value) (env : Env) :
    compTurn (.ListComp elt [g0, ⟨target, iter, [], 0⟩] scope pos) 1 it acc env = (do
      standAt iter.pos
      match ← pyNext it with
      | none => pure (.done .next)
      | some v => do
        letOwnedTupleGo target it v
        assign target env v
        let _ ← (do let y ← eval elt env; let _ ← call (.builtin "list.append") [acc, y]; pure () : Sem Unit)
        again (.compLoop (.ListComp elt [g0, ⟨target, iter, [], 0⟩] scope pos) 1 it acc env)) := by rfl
/-- a turn over the first of two clauses, written out -/
theorem compTurn_out (elt t0 it0 t1 it1 : Expr) (scope : Scope) (pos : Pos) (it acc : Value) (env : Env) :
    compTurn (.ListComp elt [⟨t0, it0, [], 0⟩, ⟨t1, it1, [], 0⟩] scope pos) 0 it acc env = (do
      standAt it0.pos
      match ← pyNext it with
      | none => pure (.done .next)
      | some v => do
        letOwnedTupleGo t0 it v
        assign t0 env v
        let x ← eval it1 env
        standAt it1.pos
        let x ← foldedSetIterable it1 env x
        let it' ← holding [x] (pyIter x)
        let _ ← runOwn (.compStart (.ListComp elt [⟨t0, it0, [], 0⟩, ⟨t1, it1, [], 0⟩] scope pos) 1 it' acc env) env
        again (.compLoop (.ListComp elt [⟨t0, it0, [], 0⟩, ⟨t1, it1, [], 0⟩] scope pos) 0 it acc env)) := by rfl

section
variable {prog : Program} {w : World} {A : Around} {E : Value → Shared → Prop} {s : Shared} {env : Env}

/-- a clause's start: its iterator is taken as it is, or once more -/
theorem compStart_in {elt : Expr} {gs : List Comprehension} {scope : Scope} {pos : Pos} {d : Nat} {g : Comprehension} {it acc : Value} {R : Result → Shared → Prop} (hg : gs[d]? = some g) (ha : (g.is_async != 0) = false)
    (once : codeAny (model prog w) A (.compLoop (.ListComp elt gs scope pos) d it acc env) R s)
    (twice : ∀ E', wpAny (model prog w) A (pyIter it) (fun it' => codeAny (model prog w) A (.compLoop (.ListComp elt gs scope pos) d it' acc env) R) E' s) :
    codeAny (model prog w) A (.compStart (.ListComp elt gs scope pos) d it acc env) R s := by
  have body : ∀ E', wpAny (model prog w) A (compStart (.ListComp elt gs scope pos) d it acc env) (fun fin s' => match fin with | .done f => R (.ok f) s' | .again c' => c'.quiet = true ∧ codeAny (model prog w) A c' R s') E' s := by
    intro E'
    unfold compStart
    rw [show (clausesOf (.ListComp elt gs scope pos))[d]? = some g from hg]
    simp only [Option.elim, ha, Bool.false_eq_true, if_false]
    apply wpAny_bind
    apply wpAny_askSetting
    apply wpAny_ite
    by_cases q : (model prog w).w.params.followText "comprehension-iter-twice" = true
    · rw [if_pos q]
      exact wpAny_bind (wpAny_pure (wpAny_pure ⟨rfl, once⟩))
    · rw [if_neg q]
      apply wpAny_bind
      apply wpAny_rule
      apply wpAny_bind
      apply wpAny_standAt
      apply wpAny_bind
      exact wpAny_mono (twice E') (fun it' s' c => wpAny_pure ⟨rfl, c⟩) fun _ _ e => e
  apply codeAny_of_tree
  have whole : ∀ E', wpAny (model prog w) A ((compStart (.ListComp elt gs scope pos) d it acc env).onRaise fun x => do noteFrame x env; standAt theWindowsPlace) _ E' s := fun E' => wpAny_notedAt (body _)
  exact whole _

/-- the inner loop -/
theorem compLoopIn {elt iter : Expr} {x : Str} {px : Pos} {g0 : Comprehension} {scope : Scope} {pos : Pos} {I D : Addr} {fp : List Addr} {n : Nat} {P : Nat → Value → Prop} {St : Nat → Heap → Prop} {R : Result → Shared → Prop}
    {cenv : Env} {m : Str → Option Value} {acc₀ : List Value} (W : Walks prog w A I fp [I] n P St) (J : Nat → List Value → Prop) (M : (Str → Option Value) → Prop) (s₀ : Shared)
    (hx : cenv.kindOf x = some .local) (hp : cenv.scope.kind = .function) (hM : ∀ m v, M m → M (up m x v))
    (hDI : D ≠ I) (hDC : D ≠ cenv.locals) (hIC : I ≠ cenv.locals) (hDf : D ∉ fp) (hCf : cenv.locals ∉ fp)
    (hD0 : s₀.heap.get? D = none) (hC0 : s₀.heap.get? cenv.locals = none) (hI0 : s₀.heap.get? I = none) (hg : Goes [] s₀ s)
    (g : Shared) (hgI : g.heap.get? I = none) (hgs : Goes [D, cenv.locals] g s)
    (hst : St 0 s.heap) (hacc : s.heap.PlainList D acc₀.toArray) (hn : s.heap.Ns cenv.locals m) (hm : M m) (hsz : acc₀.length + n ≤ sizeLine)
    (j0 : J 0 acc₀)
    (turn : ∀ i v ys s₃ m₃ E', i < n → P i v → J i ys → M m₃ → s₃.heap.Ns cenv.locals m₃ → m₃ x = some v → Goes [] s₀ s₃ →
      wpAny (model prog w) A (eval elt cenv) (fun y s₄ => Goes [] s₃ s₄ ∧ J (i + 1) (ys ++ [y])) E' s₃)
    (hR : ∀ s' m' (ys : List Value), s'.heap.Ns cenv.locals m' → M m' → s'.heap.PlainList D ys.toArray → ys.length = acc₀.length + n → J n ys → Goes [] s₀ s' → Goes [D, cenv.locals] g s' → R (.ok .next) s') :
    codeAny (model prog w) A (.compLoop (.ListComp elt [g0, ⟨.Name x px, iter, [], 0⟩] scope pos) 1 (.ref I) (.ref D) cenv) R s := by
  refine codeAny_loop rfl (fun k s' => ∃ i m', ∃ ys : List Value, Goes [] s₀ s' ∧ Goes [D, cenv.locals] g s' ∧ St i s'.heap ∧ s'.heap.PlainList D ys.toArray ∧ s'.heap.Ns cenv.locals m' ∧ M m' ∧ J i ys ∧ i ≤ n ∧ ys.length = acc₀.length + i ∧ k = n + 1 - i) ?_ (n + 1)
    ⟨0, m, acc₀, hg, hgs, hst, hacc, hn, hm, j0, Nat.zero_le _, rfl, rfl⟩
  rintro k s' ⟨i, m', ys, g', gg, st, hl, hn', hm', j, hi, hy, rfl⟩
  show wpAny _ _ ((compTurn (.ListComp elt [g0, ⟨.Name x px, iter, [], 0⟩] scope pos) 1 (.ref I) (.ref D) cenv).onRaise (fun x => do noteFrame x cenv; theTreesLotGoes x)) _ _ s'
  refine wpAny_noted ?_
  rw [compTurn_in]
  refine wpAny_bind (wpAny_standAt (wpAny_bind ?_))
  by_cases hlt : i < n
  · refine W.item i _ _ _ hlt st fun v h₁ tk₁ hP st₁ k₁ => ?_
    have k₁' : ∀ b o, b ≠ I → s'.heap.get? b = some o → h₁.get? b = some o := fun b o n e => k₁ b o (by simpa using n) e
    have g₁ : Goes [] s₀ { s' with heap := h₁, toks := tk₁ } := g'.locs (W := [I]) (by simp [hI0]) (Goes.of k₁)
    have gg₁ : Goes [D, cenv.locals] g { s' with heap := h₁, toks := tk₁ } := by
      obtain ⟨h', t', rfl, kb⟩ := gg
      exact ⟨h₁, tk₁, rfl, fun b o nb e => k₁' b o (fun q => by rw [q, hgI] at e; cases e) (kb b o nb e)⟩
    refine wpAny_bind (wpAny_pure ?_)
    refine wpAny_bind (wpAny_assign_Name (wpAny_storeName_local hx (hn'.at' fun o e => k₁' _ o (Ne.symm hIC) e) (fun h₂ hn₂ hs₂ => ?_) (by rw [hp]; rfl)))
    have g₂ : Goes [] s₀ { s' with heap := h₂, toks := tk₁ + 1 } := g₁.locs (W := [cenv.locals]) (by simp [hC0]) (Goes.of (KB.same hs₂ (by simp)))
    have gg₂ : Goes [D, cenv.locals] g { s' with heap := h₂, toks := tk₁ + 1 } := gg₁.trans (Goes.of (KB.same hs₂ (by simp)))
    have st₂ : St (i + 1) h₂ := W.frame _ _ _ st₁ fun b hb o e => hs₂.extBut b o (fun q => hCf (q ▸ hb)) e
    have hl₂ : h₂.PlainList D ys.toArray := hl.at fun o e => hs₂.extBut D o hDC (k₁' D o hDI e)
    refine wpAny_bind (wpAny_bind (wpAny_mono (turn i v ys { s' with heap := h₂, toks := tk₁ + 1 } _ _ hlt hP j (hM _ v hm') hn₂ (by simp [up]) g₂) (fun y s₄ h₄ => ?_) fun _ _ e => e))
    obtain ⟨g₄, j₄⟩ := h₄
    have hl₄ := g₄.kb.plain hl₂ (by simp)
    refine wpAny_bind (callAppend hl₄ (by omega) fun s₅ hl₅ g₅ => ?_)
    have k₅ : ∀ b o, b ≠ D → s₄.heap.get? b = some o → s₅.heap.get? b = some o := fun b o n e => g₅.kb b o (by simpa using n) e
    refine wpAny_pure (wpAny_pure ⟨rfl, n + 1 - (i + 1), by omega, i + 1, _, ys ++ [y], (g₂.trans g₄).locs (W := [D]) (by simp [hD0]) g₅, (gg₂.trans g₄.any).trans (g₅.mono (by simp)), ?_, hl₅, (g₄.ns hn₂).at' fun o e => k₅ _ o (Ne.symm hDC) e, hM _ v hm', j₄, hlt, by simp; omega, rfl⟩)
    exact W.frame _ _ _ st₂ fun b hb o e => k₅ b o (fun q => hDf (q ▸ hb)) (g₄.kb.all b o e)
  · obtain rfl : i = n := Nat.le_antisymm hi (Nat.not_lt.mp hlt)
    refine W.done _ _ _ st fun h₁ tk₁ k₁ => ?_
    have k₁' : ∀ b o, b ≠ I → s'.heap.get? b = some o → h₁.get? b = some o := fun b o n e => k₁ b o (by simpa using n) e
    have gg₁ : Goes [D, cenv.locals] g { s' with heap := h₁, toks := tk₁ } := by
      obtain ⟨h', t', rfl, kb⟩ := gg
      exact ⟨h₁, tk₁, rfl, fun b o nb e => k₁' b o (fun q => by rw [q, hgI] at e; cases e) (kb b o nb e)⟩
    exact wpAny_pure (hR _ m' ys (hn'.at' fun o e => k₁' _ o (Ne.symm hIC) e) hm' (hl.at fun o e => k₁' D o hDI e) hy j (g'.locs (W := [I]) (by simp [hI0]) (Goes.of k₁)) gg₁)

/-- a comprehension of two fors, the inner one over a list that stands -/
theorem compE2 {elt iter0 iter1 : Expr} {x y : Str} {px py : Pos} {scope : Scope} {cl : List (Str × Addr)} {pos : Pos} {Q : Value → Shared → Prop} {n : Nat} {P : Nat → Value → Prop} {l : Addr} {items : Array Value} (J : Nat → Nat → List Value → Prop)
    (hclos : closureFor scope env = pure cl) (hcell : ∀ y ∈ scope.names, y.2 ≠ .cell) (hkind : scope.kind = .function)
    (hnames : ∀ y ∈ scope.names, y.2 = .local → scope.names.lookup y.1 = some .local) (hx : scope.names.lookup x = some .local) (hy : scope.names.lookup y = some .local) (hxy : decide (x = y) = false) (hh : A.handled = none)
    (hsz : n * items.size + items.size ≤ sizeLine) (hl : s.heap.IsList l items)
    (h : wpAny (model prog w) A (eval iter0 env) (fun xv s₁ => wpAny (model prog w) A (pyIter xv) (Src prog w A s n P) E s₁) E s)
    (h1 : ∀ C i v s₃ m₃ E', i < n → P i v → s₃.heap.Ns C m₃ → m₃ x = some v → Goes [] s s₃ → wpAny (model prog w) A (eval iter1 (compEnvC scope cl C env)) (fun xv s₄ => xv = .ref l ∧ Goes [] s₃ s₄) E' s₃)
    (j0 : J 0 0 []) (jn : ∀ i ys, i < n → J i items.size ys → J (i + 1) 0 ys)
    (turn : ∀ C i j v0 v1 ys s₃ m₃ E', i < n → P i v0 → items[j]? = some v1 → J i j ys → s₃.heap.Ns C m₃ → m₃ x = some v0 → m₃ y = some v1 → Goes [] s s₃ →
      wpAny (model prog w) A (eval elt (compEnvC scope cl C env)) (fun r s₄ => Goes [] s₃ s₄ ∧ J i (j + 1) (ys ++ [r])) E' s₃)
    (hQ : ∀ D s' (ys : List Value), s.heap.get? D = none → s'.heap.PlainList D ys.toArray → J n 0 ys → Goes [] s s' → Q (.ref D) s')
    (hs : ∀ x, foldedSetIterable iter0 env x = pure x := by intro _; rfl) (hs1 : ∀ e x, foldedSetIterable iter1 e x = pure x := by intro _ _; rfl) :
    wpAny (model prog w) A (eval (.ListComp elt [⟨.Name x px, iter0, [], 0⟩, ⟨.Name y py, iter1, [], 0⟩] scope pos) env) Q E s := by
  rw [eval_ListComp]
  apply wpAny_comprehension_free (use := none) rfl hs hclos hkind hnames
  refine wpAny_mono h (fun xv s₁ q => wpAny_mono q ?_ fun _ _ e => e) fun _ _ e => e
  rintro it s₂ ⟨I, fp, St, rfl, W, hg, hI0, hI, hst, hfp⟩
  refine compOwn hcell hkind fun D C s₃ m cenv hD hC hDC lD nC g₃ he hcl => ?_
  rw [he, hcl]
  have hst₁ : St 0 s₃.heap := W.frame _ _ _ hst fun b _ o e => g₃.kb.all b o e
  have off : ∀ {Z : Addr}, s₂.heap.get? Z = none → Z ∉ fp := fun {Z} f q => by
    obtain ⟨o, e⟩ := hfp _ q
    rw [f] at e; cases e
  have offI : ∀ {Z : Addr}, s₂.heap.get? Z = none → Z ≠ I := fun {Z} f q => by
    obtain ⟨o, e⟩ := hI _ _ hst
    rw [← q, f] at e; cases e
  have back : ∀ {Z : Addr}, s₂.heap.get? Z = none → s.heap.get? Z = none := fun {Z} f => by
    cases e : s.heap.get? Z with
    | none => rfl
    | some o => rw [hg.kb.all _ _ e] at f; cases f
  have hD0 := back hD
  have hC0 := back hC
  have hDI := offI hD
  have hIC := Ne.symm (offI hC)
  have hDf := off hD
  have hCf := off hC
  have hxk : (compEnvC scope cl C env).kindOf x = some .local := lookup_relabel_local hx
  have hyk : (compEnvC scope cl C env).kindOf y = some .local := lookup_relabel_local hy
  have whole : codeAny (model prog w) A (.compLoop (.ListComp elt [⟨.Name x px, iter0, [], 0⟩, ⟨.Name y py, iter1, [], 0⟩] scope pos) 0 (.ref I) (.ref D) (compEnvC scope cl C env))
        (compPost (model prog w) A E none Q (.ref D) C) s₃ := by
    refine codeAny_loop rfl (fun k s' => ∃ i m', ∃ ys : List Value, Goes [] s s' ∧ St i s'.heap ∧ s'.heap.PlainList D ys.toArray ∧ s'.heap.Ns C m' ∧ J i 0 ys ∧ i ≤ n ∧ ys.length = i * items.size ∧ k = n + 1 - i) ?_ (n + 1)
      ⟨0, _, [], hg.trans g₃, hst₁, lD, nC, j0, Nat.zero_le _, by simp, rfl⟩
    rintro k s' ⟨i, m', ys, g', st, hl', hn', j, hi, hyl, rfl⟩
    show wpAny _ _ ((compTurn (.ListComp elt [⟨.Name x px, iter0, [], 0⟩, ⟨.Name y py, iter1, [], 0⟩] scope pos) 0 (.ref I) (.ref D) (compEnvC scope cl C env)).onRaise (fun x => do noteFrame x (compEnvC scope cl C env); theTreesLotGoes x)) _ _ s'
    refine wpAny_noted ?_
    rw [compTurn_out]
    refine wpAny_bind (wpAny_standAt (wpAny_bind ?_))
    by_cases hlt : i < n
    · refine W.item i _ _ _ hlt st fun v h₂ tk₂ hP st₂ k₂ => ?_
      have k₂' : ∀ b o, b ≠ I → s'.heap.get? b = some o → h₂.get? b = some o := fun b o n e => k₂ b o (by simpa using n) e
      have g₂ : Goes [] s { s' with heap := h₂, toks := tk₂ } := g'.locs (W := [I]) (by simp [hI0]) (Goes.of k₂)
      refine wpAny_bind (wpAny_pure ?_)
      refine wpAny_bind (wpAny_assign_Name (wpAny_storeName_local hxk (hn'.at' fun o e => k₂' _ o (Ne.symm hIC) e) (fun h₃ hn₃ hs₃ => ?_) (by show (scope.kind == .class || (scope.kind == .module && _)) = false; rw [hkind]; rfl)))
      have g₃ : Goes [] s { s' with heap := h₃, toks := tk₂ + 1 } := g₂.locs (W := [C]) (by simp [hC0]) (Goes.of (KB.same hs₃ (by simp [compEnvC])))
      have st₃ : St (i + 1) h₃ := W.frame _ _ _ st₂ fun b hb o e => hs₃.extBut b o (fun q => hCf (by have q' : b = C := q; exact q' ▸ hb)) e
      have hl₃ : h₃.PlainList D ys.toArray := hl'.at fun o e => hs₃.extBut D o hDC (k₂' D o hDI e)
      refine wpAny_bind (wpAny_mono (h1 C i v { s' with heap := h₃, toks := tk₂ + 1 } _ _ hlt hP hn₃ (by simp) g₃) (fun xv s₄ h₄ => ?_) fun _ _ e => e)
      obtain ⟨rfl, g₄⟩ := h₄
      refine wpAny_bind (wpAny_standAt (wpAny_bind (wpAny_of_eq (hs1 _ _) ?_)))
      have gs₄ := g₃.trans g₄
      refine wpAny_bind (wpAny_holding (wpAny_pyIter_list (gs₄.list hl) ?_))
      have hn₄ := g₄.ns hn₃
      have hl₄ := g₄.kb.plain hl₃ (by simp)
      have st₄ : St (i + 1) s₄.heap := W.frame _ _ _ st₃ fun b _ o e => g₄.kb.all b o e
      have hD₄ : D < s₄.heap.objs.size := by obtain ⟨_, e⟩ := hl₄; exact Heap.lt_size e
      have hC₄ : C < s₄.heap.objs.size := hn₄.lt
      have hl4 : l < s₄.heap.objs.size := by obtain ⟨_, e, _⟩ := gs₄.list hl; exact Heap.lt_size e
      have hlD : D ≠ l := fun q => by obtain ⟨_, e, _⟩ := hl; rw [← q, hD0] at e; cases e
      have hlC : C ≠ l := fun q => by obtain ⟨_, e, _⟩ := hl; rw [← q, hC0] at e; cases e
      have hI4 : I < s₄.heap.objs.size := by obtain ⟨o, e⟩ := hI _ _ st₄; exact Heap.lt_size e
      have hN0 : s.heap.get? s₄.heap.objs.size = none := by
        cases e : s.heap.get? s₄.heap.objs.size with
        | none => rfl
        | some o => exact absurd (Heap.lt_size (gs₄.kb.all _ _ e)) (Nat.lt_irrefl _)
      have push : ∀ b o, s₄.heap.get? b = some o → (s₄.heap.push { cls := .type "list_iterator", data := .fields #[.ref l, .int 0 0] }).get? b = some o := fun b o e => Heap.get?_push_of_some _ e
      have run : ∀ s₅ : Shared, s₅ = { s₄ with heap := s₄.heap.push { cls := .type "list_iterator", data := .fields #[.ref l, .int 0 0] } } →
          codeAny (model prog w) A (.compLoop (.ListComp elt [⟨.Name x px, iter0, [], 0⟩, ⟨.Name y py, iter1, [], 0⟩] scope pos) 1 (.ref s₄.heap.objs.size) (.ref D) (compEnvC scope cl C env))
            (fun r s₆ => match r with
              | .ok _ => ∃ ys' m'', Goes [] s s₆ ∧ St (i + 1) s₆.heap ∧ s₆.heap.PlainList D ys'.toArray ∧ s₆.heap.Ns C m'' ∧ J i items.size ys' ∧ ys'.length = ys.length + items.size
              | .error _ => False) s₅ := by
        rintro s₅ rfl
        refine compLoopIn (cenv := compEnvC scope cl C env) (acc₀ := ys) (Walks.list hh s₄.heap.objs.size l (Nat.ne_of_lt hl4) items) (J i) (fun m => m x = some v) s hyk hkind (fun m u hm => (up_ne hxy).trans hm)
          (Nat.ne_of_lt hD₄) hDC (Nat.ne_of_gt hC₄) ?_ ?_ hD0 hC0 hN0 (gs₄.trans (Goes.of (KB.of push))) s₄ (free_size _) (Goes.of (KB.of push)) ⟨⟨_, Heap.get?_push_size _ rfl, rfl, rfl⟩, (gs₄.list hl).push _⟩
          (hl₄.at fun o e => push _ o e) (hn₄.at' fun o e => push _ o e) (by simp) ?_ j ?_ ?_
        · simp; exact ⟨Nat.ne_of_lt hD₄, hlD⟩
        · simp; exact ⟨Nat.ne_of_lt hC₄, hlC⟩
        · have : i * items.size + items.size ≤ n * items.size := by
            rw [← Nat.succ_mul]; exact Nat.mul_le_mul_right _ hlt
          omega
        · intro j' v1 ys' s₆ m₆ E' hj' hv1 hJ hm₆ hn₆ hm6 g₆
          exact turn C i j' v v1 ys' s₆ m₆ E' hlt hP hv1 hJ hn₆ hm₆ hm6 g₆
        · intro s₆ m₆ ys' hn₆ hm₆ hl₆ hlen₆ hJ₆ g₆ gg₆
          refine ⟨ys', m₆, g₆, ?_, hl₆, hn₆, hJ₆, hlen₆⟩
          exact W.frame _ _ _ st₄ fun b hb o e => gg₆.kb b o (by
            simp [compEnvC]
            exact ⟨fun q => hDf (q ▸ hb), fun q => hCf (q ▸ hb)⟩) e
      refine wpAny_bind (wpAny_runOwn (codeAny_mono (compStart_in (g := ⟨.Name y py, iter1, [], 0⟩) rfl rfl (run _ rfl) (fun _ => wpAny_pyIter_listiter ⟨_, Heap.get?_push_size _ rfl, rfl, rfl⟩ (run _ rfl))) fun r s₆ hr => ?_))
      cases r with
      | error e => exact hr.elim
      | ok f =>
        obtain ⟨ys', m'', g₆, st₆, hl₆, hn₆, hJ₆, hlen₆⟩ := hr
        exact wpAny_pure ⟨rfl, n + 1 - (i + 1), by omega, i + 1, m'', ys', g₆, st₆, hl₆, hn₆, jn _ _ hlt hJ₆, hlt, by rw [hlen₆, hyl, Nat.succ_mul], rfl⟩
    · obtain rfl : i = n := Nat.le_antisymm hi (Nat.not_lt.mp hlt)
      refine W.done _ _ _ st fun h₂ tk₂ k₂ => ?_
      have k₂' : ∀ b o, b ≠ I → s'.heap.get? b = some o → h₂.get? b = some o := fun b o n e => k₂ b o (by simpa using n) e
      have g₂ : Goes [] s { s' with heap := h₂, toks := tk₂ } := g'.locs (W := [I]) (by simp [hI0]) (Goes.of k₂)
      refine wpAny_pure ⟨m', hn'.at' fun o e => k₂' _ o (Ne.symm hIC) e, fun h'' hs'' => ?_⟩
      exact hQ D _ ys hD0 (hl'.at fun o e => hs''.extBut D o hDC (k₂' D o hDI e)) j (g₂.locs (W := [C]) (by simp [hC0]) (Goes.of (KB.same hs'' (by simp))))
  exact codeAny_compStart_list whole (W.self 0 _ _ _ hst₁ whole)
end
end Mine
end

section
open PySem PySem.W PyProof.Rows PySem.Calls
set_option Elab.async false
set_option maxRecDepth 100000
set_option maxHeartbeats 4000000
namespace Mine
local macro_rules | `(tactic| walk_at "sd") => `(tactic| first | kernel_rfl | decide | rfl)
def letters : List Str := ["b", "a", "de_AT"]
theorem IntsAre.to {vs : List Value} {ns : List Int} (h : IntsAre vs ns) {i : Nat} {y : Int} (e : ns[i]? = some y) : ∃ t, vs[i]? = some (.int y t) := h.get i y e
theorem ints_at {vs : List Value} {ns : List Int} (h : IntsAre vs ns) {i : Nat} {v : Value} (e : vs[i]? = some v) : ∃ y t, v = .int y t ∧ ns[i]? = some y := by
  have hl := h.length
  have hi : i < vs.length := (List.getElem?_eq_some_iff.mp e).1
  obtain ⟨t, q⟩ := h.get i (ns[i]'(by omega)) (by simp)
  rw [e] at q
  exact ⟨_, t, Option.some.inj q, by simp⟩
section
variable {prog : Program} {w : World} {A : Around} {E : Value → Shared → Prop} {s : Shared}
theorem newTupleP {vs : List Value} {Q : Value → Shared → Prop} (h : ∀ s' D, s.heap.get? D = none → s'.heap.IsTuple D vs.toArray → Goes [] s s' → Q (.ref D) s') (hsz : vs.length ≤ sizeLine) : wpAny (model prog w) A (newTuple vs) Q E s :=
  wpAny_newObj_type (h _ _ (free_size _) ⟨_, Heap.get?_push_size _ rfl, rfl, 0, rfl⟩ (Goes.of (KB.push _))) (by show vs.toArray.size ≤ sizeLine; rw [List.size_toArray]; exact hsz)
theorem lk72 : (KK w).lookup 72 = some { cls := .type "function", data := .func (fd 72) } := by kernel_rfl
theorem cd72 : codeIn (KK w) (fd 72).code (fd 72).qualname = true := by kernel_rfl
theorem bo72 : (fd 72).body = .stmts (bod 72) := by kernel_rfl

def WordJ (L a D : Addr) (n : Nat) (h : Heap) : Prop :=
  ∃ m cs cz, h.Ns L m ∧ m "script" = some (.ref a) ∧ m "cells" = some (.ref D) ∧ h.IsList D (List.toArray cs) ∧ IntsAre cs cz ∧ cz.length = n
theorem letter_get {j : Nat} (hj : j < 3) : ∃ l, letters[j]? = some l ∧ l ∈ letters := by
  rcases j with _ | _ | _ | j
  · exact ⟨_, rfl, by simp [letters]⟩
  · exact ⟨_, rfl, by simp [letters]⟩
  · exact ⟨_, rfl, by simp [letters]⟩
  · omega

theorem word_ctr {a : Addr} {vs : List Value} {ns : List Int} {Q : Value → Shared → Prop} (sc : SC w s.heap) (ok : AOk A 4) (hl : s.heap.IsList a vs.toArray) (hS : IntsAre vs ns) (hlen : ns.length ≤ 100)
    (h : ∀ s' D ws ys, Goes [] s s' → s'.heap.PlainList D (List.toArray ys) → StrsAre ys ws → (∀ l ∈ ws, l ∈ letters) → (ws.length = 4 ∨ ws.length = 5) → Q (.ref D) s') :
    wpAny (model prog w) A (call (.ref 72) [.ref a]) Q E s := by
  have hsl := sizeLine_eq
  have hvl := hS.length
  refine callFd (k := 3) (binds := [("script", .ref a)]) 72 sc ok lk72 cd72 bo72 (BindsTo.of_eq (by kernel_rfl)) (by decide +kernel) (locs (by kernel_rfl)) ?_ (by kernel_rfl) (by kernel_rfl) (by kernel_rfl)
  intro L s₁ m hL g hn hm ok'
  have ha : m "script" = some (.ref a) := (hm _).trans (by kernel_rfl)
  clear hm
  refine wpAny_execs_cons (wpAny_Assign_Name (List_ (wpAny_items_cons (wpAny_Constant_int (wpAny_items_cons (wpAny_Constant_int (wpAny_items_cons (wpAny_Constant_int (wpAny_items_cons (wpAny_Constant_int (wpAny_items_nil (newListP (fun s₂ D hD hlD g₂ => ?_) ?_))) (by kernel_rfl))) (by kernel_rfl))) (by kernel_rfl))) (by kernel_rfl))) (by kernel_rfl))
  replace g₂ : Goes [] s₁ s₂ := Goes.trans (Goes.of (KB.refl _ _)) g₂
  replace hD : s₁.heap.get? D = none := hD
  have hDs : s.heap.get? D = none := by
    cases e : s.heap.get? D with
    | none => rfl
    | some o => rw [g.kb.all _ _ e] at hD; cases hD
  have hDL : D ≠ L := fun q => by
    obtain ⟨o, _, _, e, _⟩ := hn
    rw [q, e] at hD; cases hD
  obtain ⟨cs0, hlD, hI0⟩ : ∃ cs0 : List Value, s₂.heap.PlainList D cs0.toArray ∧ IntsAre cs0 [0, 1, 1, 0] := ⟨_, hlD, .cons _ _ (.cons _ _ (.cons _ _ (.cons _ _ .nil)))⟩
  have hn₂ := g₂.ns hn
  replace g₂ := g.trans g₂
  refine stL hn₂ (fun s₃ hn₃ g₃ => ?_) ?_ ?_
  replace g₃ : Goes [L] s₂ s₃ := g₃
  have hlD₃ := g₃.kb.plain hlD (by simpa using hDL)
  replace g₃ := g₂.loc hL g₃
  have hsz : ((vs.toArray.size : Nat) : Int) = (ns.length : Int) := by rw [List.size_toArray, hvl]
  -- behind the cells
  have rest : ∀ (s₄ : Shared) (cs : List Value) (cz : List Int) (m₄ : Str → Option Value) (E' : Value → Shared → Prop), Goes [] s s₄ → s₄.heap.Ns L m₄ → m₄ "script" = some (.ref a) → m₄ "cells" = some (.ref D) → s₄.heap.IsList D cs.toArray → IntsAre cs cz →
      (cz.length = 4 ∨ cz.length = 5) →
      wpAny (model prog w) (A.deeper (callEnv (fd 72) L 72)) (execs ((bod 72).drop 2) (callEnv (fd 72) L 72)) (fun f s' => Q (match f with | .ret v => v | _ => .none) s') E' s₄ := by
    intro s₄ cs cz m₄ E' g₄ hn₄ hs₄ hc₄ hl₄ hi₄ h45
    have hlw : ∀ b ∈ [L, D], ∃ o, s₄.heap.get? b = some o := by
      intro b hb
      rcases List.mem_cons.mp hb with rfl | hb
      · obtain ⟨o, _, _, e, _⟩ := hn₄; exact ⟨o, e⟩
      · rw [List.mem_singleton.mp hb]; obtain ⟨o, e, _⟩ := hl₄; exact ⟨o, e⟩
    refine wpAny_execs_cons (forRange (n := min ns.length 60) [L, D] (fun _ => WordJ L a D cz.length) ok'.hh (by omega) ?_ hlw ⟨m₄, cs, cz, hn₄, hs₄, hc₄, hl₄, hi₄, rfl⟩ ?_ ?_ ?_)
    · refine Call_ ?_ (by kernel_rfl)
      refine nmB (v := .type "range") (g₄.sc sc) (by simp [gl]) (by simp [bl]) ?_ ?_ ?_ ?_ ?_ ?_
      refine PyProof.Rows.callWith_type1 (wpAny_items_cons (Call_ ?_ (by kernel_rfl)) (by kernel_rfl)) (by kernel_rfl) (by kernel_rfl)
      refine nmB (v := .builtin "min") (g₄.sc sc) (by simp [gl]) (by simp [bl]) ?_ ?_ ?_ ?_ ?_ ?_
      refine PyProof.Rows.callWith_builtin1 (wpAny_items_cons (Call_ ?_ (by kernel_rfl)) (by kernel_rfl)) (by kernel_rfl) (by kernel_rfl)
      refine nmB (v := .builtin "len") (g₄.sc sc) (by simp [gl]) (by simp [bl]) ?_ ?_ ?_ ?_ ?_ ?_
      refine PyProof.Rows.callWith_builtin1 (wpAny_items_cons ?_ (by kernel_rfl)) (by kernel_rfl) (by kernel_rfl)
      refine nmL hn₄ hs₄ ?_ ?_ ?_ ?_
      refine wpAny_items_nil ?_
      refine call_len_list (g₄.list hl) (by rw [List.size_toArray]; omega) ?_
      rw [hsz]
      refine wpAny_items_cons (wpAny_Constant_int (wpAny_items_nil ?_)) (by kernel_rfl)
      refine min_two_ints ok'.hh fun h' tk' kh => ?_
      have e7 : ∃ t, (if (60 : Int) < (ns.length : Int) then Value.int 60 ({ s₄ with toks := s₄.toks + 1 + 1 } : Shared).toks else Value.int (ns.length : Int) (s₄.toks + 1)) = Value.int ((min ns.length 60 : Nat) : Int) t := by
        by_cases q : (60 : Int) < (ns.length : Int)
        · rw [if_pos q]; exact ⟨_, by congr 1; omega⟩
        · rw [if_neg q]; exact ⟨_, by congr 1; omega⟩
      obtain ⟨t7, e7⟩ := e7
      rw [e7]
      refine wpAny_items_nil (call_range_1 ⟨_, rfl, Goes.of (KB.trans (KB.of kh) (KB.push _)), _, _, _, Heap.get?_push_size _ rfl⟩)
      all_goals walk_at "sd"
    · rintro i h h' ⟨m', cs', cz', q1, q2, q3, q4, q5⟩ kf
      exact ⟨m', cs', cz', kf.ns q1, q2, q3, kf.list q4, q5⟩
    · rintro i t s₅ E'' hi ⟨m₅, cs₅, cz₅, hn₅, hs₅, hc₅, hl₅, hi₅, hz₅⟩ g₅
      have gg₅ : Goes [] s s₅ := g₄.locs (by simp [hL, hDs]) g₅
      have hcl := hi₅.length
      refine stL hn₅ (fun s₆ hn₆ g₆ => ?_) ?_ ?_
      replace g₆ : Goes [L] s₅ s₆ := g₆
      have hl₆ := g₆.kb.list hl₅ (by simpa using hDL)
      have gg₆ := gg₅.loc hL g₆
      refine wpAny_execs_cons (wpAny_AugAssign_SubscriptAny ?_)
      refine nmL hn₆ (up_else (by decide +kernel) hc₅) ?_ ?_ ?_ ?_
      refine wpAny_BinOp ?_
      refine nmL hn₆ up_same ?_ ?_ ?_ ?_
      refine Call_ ?_ (by kernel_rfl)
      refine nmB (v := .builtin "len") (gg₆.sc sc) (by simp [gl]) (by simp [bl]) ?_ ?_ ?_ ?_ ?_ ?_
      refine PyProof.Rows.callWith_builtin1 (wpAny_items_cons ?_ (by kernel_rfl)) (by kernel_rfl) (by kernel_rfl)
      refine nmL hn₆ (up_else (by decide +kernel) hc₅) ?_ ?_ ?_ ?_
      refine wpAny_items_nil ?_
      refine call_len_list hl₆ (by rw [List.size_toArray]; omega) ?_
      have e8 : ((cs₅.toArray.size : Nat) : Int) = (cz₅.length : Int) := by rw [List.size_toArray, hcl]
      rw [e8]
      refine mod_int' (by omega) ?_
      have e9 : Int.fmod (i : Int) (cz₅.length : Int) = ((i % cz₅.length : Nat) : Int) := by
        rw [Int.fmod_eq_emod_of_nonneg _ (by omega)]
        simp
      rw [e9]
      have hj : i % cz₅.length < cz₅.length := Nat.mod_lt _ (by omega)
      generalize i % cz₅.length = j at hj
      obtain ⟨c, hc⟩ : ∃ c, cz₅[j]? = some c := ⟨cz₅[j], by simp [hj]⟩
      obtain ⟨tc, hv⟩ := IntsAre.to hi₅ hc
      refine wpAny_getItem_list hl₆ (by omega) (by omega) (x := .int c tc) (by simpa using hv) ?_
      refine wpAny_BinOp (Subscript_ ?_)
      refine nmL hn₆ (up_else (by decide +kernel) hs₅) ?_ ?_ ?_ ?_
      refine nmL hn₆ up_same ?_ ?_ ?_ ?_
      obtain ⟨y, hy⟩ : ∃ y, ns[i]? = some y := ⟨ns[i]'(by omega), by simp⟩
      obtain ⟨ty, hyv⟩ := IntsAre.to hS hy
      refine item_listR (gg₆.list hl) (by omega) (by omega) (x := .int y ty) (by simpa using hyv) ?_ (by with_unfolding_all rfl)
      refine wpAny_Constant_int (mod_int' (by decide) (iadd_int ?_))
      refine wpAny_setItem_list hl₆ (by omega) (by omega) (by rw [List.size_toArray]; omega) fun h₇ hl₇ hs₇ => ?_
      obtain ⟨t8, hl₈⟩ : ∃ t8, h₇.IsList D (cs₅.set j (.int (c + Int.fmod y 60000) t8)).toArray := ⟨_, by simpa using hl₇⟩
      exact wpAny_execs_nil ⟨g₆.mono (by simp) |>.trans (Goes.of (KB.same hs₇ (by simp))), _, cs₅.set j (.int (c + Int.fmod y 60000) t8), cz₅.set j (c + Int.fmod y 60000), hn₆.sameBut hs₇ (Ne.symm hDL), up_else (by decide +kernel) hs₅, up_else (by decide +kernel) hc₅, hl₈, ints_set hi₅ j, by rw [List.length_set]; exact hz₅⟩
      all_goals walk_at "sd"
    · rintro s₅ ⟨m₅, cs₅, cz₅, hn₅, hs₅, hc₅, hl₅, hi₅, hz₅⟩ g₅
      have gg₅ : Goes [] s s₅ := g₄.locs (by simp [hL, hDs]) g₅
      have hcl := hi₅.length
      refine wpAny_execs_cons (wpAny_Return_some (compE (n := cs₅.toArray.size) (P := fun i v => cs₅.toArray[i]? = some v) (cl := []) (fun _ _ _ i ys _ => ∃ ws, StrsAre ys ws ∧ (∀ l ∈ ws, l ∈ letters) ∧ ws.length = i)
        (by kernel_rfl) (by decide +kernel) (by kernel_rfl) (by decide +kernel) (by kernel_rfl) (by rw [List.size_toArray]; omega) ?_ (fun _ _ _ _ => ⟨[], .nil, by simp, rfl⟩) (fun _ _ _ _ _ _ _ j _ => j) ?_ ?_ (by intro _; kernel_rfl)))
      · refine nmL hn₅ hc₅ ?_ ?_ ?_ ?_
        exact src_list ok'.hh (Goes.refl _ _) hl₅
        all_goals walk_at "sd"
      · rintro D' C I i v ys s₆ m₆ E'' hi hP ⟨ws, hw1, hw2, hw3⟩ hn₆ hm₆ g₆ _ _
        refine wpAny_tests_nil ⟨Goes.refl _ _, ?_⟩
        simp only [if_true]
        obtain ⟨c, tc, rfl, hc⟩ := ints_at hi₅ (by simpa using hP)
        refine Subscript_ (Tuple_ (wpAny_items_cons (wpAny_Constant_str (wpAny_items_cons (wpAny_Constant_str (wpAny_items_cons (wpAny_Constant_str (wpAny_items_nil (newTupleP (fun s₇ T hT hlT g₇ => ?_) ?_))) ?_)) ?_)) ?_))
        replace g₇ : Goes [] s₆ s₇ := Goes.trans (Goes.of (KB.refl _ _)) g₇
        obtain ⟨ts, hlT, hts⟩ : ∃ ts : List Value, s₇.heap.IsTuple T ts.toArray ∧ StrsAre ts letters := ⟨_, hlT, .cons _ _ (.cons _ _ (.cons _ _ .nil))⟩
        have htl : ts.length = 3 := StrsAre.length hts
        refine wpAny_BinOp ?_
        refine nmL (g₇.ns hn₆) hm₆ ?_ ?_ ?_ ?_
        refine wpAny_Constant_int (mod_int' (by decide) ?_)
        have e1 : ∃ j : Nat, j < 3 ∧ Int.fmod c 3 = (j : Int) := by
          rw [Int.fmod_eq_emod_of_nonneg _ (by omega)]
          exact ⟨(c % 3).toNat, by omega, by omega⟩
        obtain ⟨j, hj, e1⟩ := e1
        rw [e1]
        obtain ⟨l, hl1, hl2⟩ := letter_get hj
        obtain ⟨tl, hv⟩ := StrsAre.to hts hl1
        refine item_tupleT (l := ts) hlT (by omega) (by omega) (j := j) ?_ hv ⟨g₇.trans (Goes.of (KB.refl _ _)), ws ++ [l], StrsAre.append' hw1 (.cons l tl .nil), ?_, by simp [hw3]⟩ (by with_unfolding_all rfl)
        · have q1 : ¬ ((j : Int) < 0) := by omega
          simp only [seqIndex?, if_neg q1, htl]
          rw [if_pos (by simp; omega)]
          simp
        · intro z hz
          rcases List.mem_append.mp hz with hz | hz
          · exact hw2 z hz
          · rw [List.mem_singleton.mp hz]; exact hl2
        all_goals first | walk_at "sd" | (simp; omega)
      · rintro D' C I s₆ ys hD' hl₆ ⟨ws, hw1, hw2, hw3⟩ g₆
        refine h _ D' ws ys (gg₅.trans g₆) hl₆ hw1 hw2 ?_
        rw [hw3, List.size_toArray]; omega
  refine wpAny_execs_cons (wpAny_If (wpAny_isTrue_Compare1 (Call_ ?_ (by kernel_rfl)) (by kernel_rfl)))
  refine nmB (v := .builtin "len") (g₃.sc sc) (by simp [gl]) (by simp [bl]) ?_ ?_ ?_ ?_ ?_ ?_
  refine PyProof.Rows.callWith_builtin1 (wpAny_items_cons ?_ (by kernel_rfl)) (by kernel_rfl) (by kernel_rfl)
  refine nmL hn₃ (up_else (by decide +kernel) ha) ?_ ?_ ?_ ?_
  refine wpAny_items_nil ?_
  refine call_len_list (g₃.list hl) (by rw [List.size_toArray]; omega) ?_
  rw [hsz]
  refine wpAny_Constant_int (gt_int (wpAny_truthy_bool ?_))
  by_cases h10 : 10 < ns.length
  · rw [decide_eq_true (by omega)]
    show wpAny _ _ (execs _ _) _ _ _
    refine wpAny_execs_cons (wpAny_Expr (MethodCall_ ?_) (by kernel_rfl) (by kernel_rfl))
    refine nmL hn₃ up_same ?_ ?_ ?_ ?_
    refine getAppend hlD₃ ?_
    refine callWith_method1 (wpAny_items_cons (wpAny_Constant_int (wpAny_items_nil ?_)) (by kernel_rfl)) (by kernel_rfl) (by kernel_rfl)
    refine callAppend hlD₃ (by have := hI0.length; simp at this; omega) fun s₄ hl₄ g₄ => ?_
    replace g₄ : Goes [D] s₃ s₄ := Goes.trans (Goes.of (KB.refl _ _)) g₄
    refine wpAny_execs_nil ?_
    exact rest s₄ _ _ _ _ (g₃.locs (by simp [hDs]) g₄) (g₄.kb.ns hn₃ (by simpa using Ne.symm hDL)) (up_else (by decide +kernel) ha) up_same hl₄.isList (IntsAre.append hI0 (.cons 2 _ .nil)) (.inr rfl)
    all_goals walk_at "sd"
  · rw [decide_eq_false (by omega)]
    show wpAny _ _ (execs _ _) _ _ _
    refine wpAny_execs_nil ?_
    exact rest _ _ _ _ _ (g₃.trans (Goes.of (KB.refl _ _))) hn₃ (up_else (by decide +kernel) ha) up_same hlD₃.isList hI0 (.inl rfl)
  all_goals first | walk_at "sd" | (simp; omega)
end
end Mine
end

section
open PySem PySem.W PyProof.Rows PySem.Calls PySem.Spec
set_option Elab.async false
set_option maxRecDepth 100000
set_option maxHeartbeats 4000000
namespace Mine
local macro_rules | `(tactic| walk_at "sd") => `(tactic| first | kernel_rfl | decide | rfl)
theorem strs_carried : ∀ {vs : List Value} {ss : List Str}, StrsAre vs ss → CarriedAll vs (ss.map PyData.str)
  | _, _, .nil => .nil
  | _, _, .cons _ t r => .cons (.str _ t) (strs_carried r)
theorem strs_canLay : ∀ ss : List Str, (∀ x ∈ ss, PyData.strOk x = true) → PyData.canLayAll0 (ss.map PyData.str) = true
  | [], _ => rfl
  | x :: r, h => by simp [PyData.canLayAll0, PyData.canLay0, h x (.head _), strs_canLay r fun y hy => h y (.tail _ hy)]
theorem strs_depth : ∀ ss : List Str, PyData.depthAll (ss.map PyData.str) = 0
  | [] => rfl
  | _ :: r => by simp [PyData.depthAll, PyData.depth, strs_depth r]
theorem strs_shaped (ss : List Str) (h : ∀ x ∈ ss, PyData.strOk x = true) : SeqAt.shaped (.list (ss.map PyData.str)) = true := by
  simp [SeqAt.shaped, PyData.canLay0, PyData.depth, strs_canLay ss h, strs_depth]
theorem strs_sameAll : ∀ ns ms : List Str, PySem.Spec.sameAll (ns.map PyData.str) (ms.map PyData.str) = decide (ns = ms)
  | [], [] => by simp [PySem.Spec.sameAll]
  | [], _ :: _ => by simp [PySem.Spec.sameAll]
  | _ :: _, [] => by simp [PySem.Spec.sameAll]
  | a :: r, b :: t => by
    simp only [List.map_cons, PySem.Spec.sameAll, PySem.Spec.same, strs_sameAll r t]
    by_cases h : a = b <;> by_cases h' : r = t <;> simp [h, h']
theorem strs_same (ns ms : List Str) : PySem.Spec.same (.list (ns.map PyData.str)) (.list (ms.map PyData.str)) = decide (ns = ms) := by
  simp only [PySem.Spec.same]; exact strs_sameAll ns ms

section
variable {prog : Program} {w : World} {A : Around} {E : Value → Shared → Prop} {s : Shared}
theorem neStrs {a b : Addr} {xs ys : List Value} {ns ms : List Str} {Q : Value → Shared → Prop} (ha : s.heap.IsList a xs.toArray) (hb : s.heap.IsList b ys.toArray) (hi : StrsAre xs ns) (hj : StrsAre ys ms)
    (oka : ∀ x ∈ ns, PyData.strOk x = true) (okb : ∀ x ∈ ms, PyData.strOk x = true) (hu : A.units + 64 < cLine) (h : Q (.bool (!decide (ns = ms))) s) :
    wpAny (model prog w) A (compareOp .NotEq (.ref a) (.ref b)) Q E s :=
  ne_dataH_same (reads_newData ha (strs_carried hi)) (reads_newData hb (strs_carried hj)) (strs_shaped _ oka) (strs_shaped _ okb) hu (SeqAt.noMix_of_shape (.list .str) rfl _ _ (list_map_has fun _ => rfl) (list_map_has fun _ => rfl)) (by rw [strs_same]; exact h)

theorem addP {l b : Addr} {vs ws : List Value} {Q : Value → Shared → Prop} (hl : s.heap.IsList l vs.toArray) (hb : s.heap.IsList b ws.toArray)
    (h : ∀ s' D, s.heap.get? D = none → s'.heap.PlainList D (vs ++ ws).toArray → Goes [] s s' → Q (.ref D) s') (hsz : vs.length + ws.length ≤ sizeLine) :
    wpAny (model prog w) A (binaryOp .Add (.ref l) (.ref b)) Q E s := by
  have tl : s.TypeIs (.ref l) "list" := hl.typeIs
  have tb : s.TypeIs (.ref b) "list" := hb.typeIs
  obtain ⟨o, ho, hc, n, hd⟩ := hl
  obtain ⟨p, hp, pc, k, pd⟩ := hb
  have fits : vs.toArray.size + ws.toArray.size ≤ sizeLine := by rw [List.size_toArray, List.size_toArray]; exact hsz
  cases o with | mk c1 d1 x1 s1 =>
  cases p with | mk c2 d2 x2 s2 =>
  obtain rfl : c1 = .type "list" := hc
  obtain rfl : c2 = .type "list" := pc
  obtain rfl : x1 = .seq vs.toArray n := hd
  obtain rfl : x2 = .seq ws.toArray k := pd
  refine concat_meets tl tb noFill_list_add seq_list_add PySem.F.slot_list_add PySem.F.entry_list_add (PySem.F.args_list_add_2 _ _) (list_addW l b _ _ n k d1 d2 s1 s2 fits) ⟨ho, hp, ?_⟩
  rw [List.append_toArray]
  exact h _ _ (free_size _) ⟨0, Heap.get?_push_size _ rfl⟩ (Goes.of (KB.push _))

theorem sumP {l : Addr} {vs : List Value} {ns : List Int} {Q : Value → Shared → Prop} (hh : A.handled = none) (hl : s.heap.IsList l vs.toArray) (hi : IntsAre vs ns) (h : ∀ s' t, Goes [] s s' → Q (.int ns.sum t) s') :
    wpAny (model prog w) A (call (.builtin "sum") [.ref l]) Q E s := by
  obtain ⟨xs, hx⟩ := hi.allInts.items
  rw [hx] at hl
  have e := nums_intItems (xs := xs)
  rw [← hx, show vs.toArray.toList = vs from rfl, hi.numsOf] at e
  refine PySem.sum_intListG hh hl fun h' tk t' hk => ?_
  rw [preSum_eq, List.take_of_length_le (by simp), ← e]
  exact h _ _ (Goes.of (KB.of hk))

theorem sortedP {l : Addr} {vs : List Value} {ss : List Str} {Q : Value → Shared → Prop} (hl : s.heap.IsList l vs.toArray) (hS : StrsAre vs ss) (h64 : vs.length < 64)
    (h : ∀ s' D vs' ss', s.heap.get? D = none → s'.heap.IsList D (List.toArray vs') → StrsAre vs' ss' → ss'.Perm ss → sortedS ss' = true → Goes [] s s' → Q (.ref D) s') :
    wpAny (model prog w) A (call (.builtin "sorted") [.ref l]) Q E s := by
  refine sorted_strs hl hS h64 fun out ss' a1 a2 a3 => ?_
  obtain ⟨e, he⟩ := sortedAll_at s.heap vs out
  refine h _ _ out.toList ss' ?_ ⟨_, he, rfl, e, by simp⟩ a1 a2 a3 (Goes.of (KB.of fun _ _ => sortedAll_old))
  cases q : s.heap.get? (s.heap.objs.size + 1) with
  | none => rfl
  | some o => exact absurd (Heap.lt_size q) (Nat.not_lt.mpr (Nat.le_succ _))

theorem weight_small : ∀ ns : List Nat, (∀ n ∈ ns, n < 2 ^ 20) → PyData.weightAll ((natI ns).map PyData.int) ≤ 21 * ns.length
  | [], _ => by simp [natI, PyData.weightAll]
  | n :: r, h => by
    have ih := weight_small r fun m hm => h m (.tail _ hm)
    simp only [natI, List.map_cons, PyData.weightAll, PyData.weight, List.length_cons] at ih ⊢
    have hn : (if ((n : Int) == 0) = true then 0 else (n : Int).natAbs.log2 + 1) ≤ 20 := by
      split
      · omega
      · rename_i hne
        have h0 : n ≠ 0 := by intro q; rw [q] at hne; simp at hne
        have := (Nat.log2_lt h0).mpr (h n (.head _))
        simp only [Int.natAbs_natCast]
        omega
    omega
theorem nats_layable (ns : List Nat) (h : ∀ n ∈ ns, n < 2 ^ 20) (hl : ns.length ≤ 1000) : PyData.layable0 (.list ((natI ns).map .int)) = true := by
  have w := weight_small ns h
  simp only [PyData.layable0, PyData.canLay0, ke_canLayAll0, PyData.depth, ke_depthAll, PyData.weight, Bool.true_and, Bool.and_eq_true, decide_eq_true_eq]
  exact ⟨by omega, decide_eq_true (by omega)⟩
theorem idxOf_nats (k : Nat) : ∀ ns : List Nat, (natI ns).idxOf (k : Int) = ns.idxOf k
  | [] => rfl
  | n :: r => by
    simp only [natI, List.map_cons, List.idxOf_cons]
    have ih := idxOf_nats k r
    simp only [natI] at ih
    rw [ih]
    by_cases h : n = k
    · subst h; simp
    · have : ¬ ((n : Int) = (k : Int)) := by omega
      rw [beq_false_of_ne h, beq_false_of_ne this]
theorem indexP {l : Addr} {vs : List Value} {ns : List Nat} {k : Nat} {t : Tok} {Q : Value → Shared → Prop} (hl : s.heap.IsList l vs.toArray) (hi : IntsAre vs (natI ns)) (hb : ∀ n ∈ ns, n < 2 ^ 20) (hlen : ns.length ≤ 1000) (hk : k ∈ ns)
    (h : ∀ t', Q (.int ((ns.idxOf k : Nat) : Int) t') { s with toks := s.toks + 1 }) :
    wpAny (model prog w) A (call (.builtin "list.index") [.ref l, .int (k : Int) t]) Q E s := by
  refine index_list_ints hl hi (nats_layable ns hb hlen) (by simp [natI]; exact ⟨k, hk, rfl⟩) ?_
  rw [idxOf_nats]
  exact h _
theorem getIndex {a : Addr} {vs : Array Value} {pl : Sem Bool} {Q : Value × List Value → Shared → Prop} (l : s.heap.PlainList a vs) (h : Q (.builtin "list.index", [.ref a]) s) :
    wpAny (model prog w) A (getMethod (.ref a) "index" pl) Q E s := getMethod_list_of PySem.F.slot_list_index PySem.F.type_list_index l.isList (plain_nodict l) h
end
end Mine
end

section
open PySem PySem.W PyProof.Rows PySem.Calls
set_option Elab.async false
set_option maxRecDepth 100000
set_option maxHeartbeats 4000000
namespace Mine
/-! ## the plain law -/
def plR : List Str → List Str
  | [] => ["C"]
  | l :: rw => plR rw ++ (plR rw).map fun t => t ++ ("." : Str) ++ l
def szR : List Str → List Nat
  | [] => [0]
  | _ :: rw => szR rw ++ (szR rw).map fun k => k + 1
def nmR : List Str → Str
  | [] => "C"
  | l :: v => nmR v ++ ("." : Str) ++ l

theorem plR_length : ∀ rw : List Str, (plR rw).length = 2 ^ rw.length
  | [] => rfl
  | l :: rw => by simp only [plR, List.length_append, List.length_map, plR_length rw, List.length_cons, Nat.pow_succ]; omega
theorem szR_length : ∀ rw : List Str, (szR rw).length = 2 ^ rw.length
  | [] => rfl
  | l :: rw => by simp only [szR, List.length_append, List.length_map, szR_length rw, List.length_cons, Nat.pow_succ]; omega

theorem subR_congr : ∀ (rw : List Str) (c d : Nat), (∀ i, i < rw.length → c.testBit i = d.testBit i) → subR rw c = subR rw d
  | [], _, _, _ => rfl
  | l :: rw, c, d, h => by
    unfold subR
    rw [h rw.length (by simp), subR_congr rw c d fun i hi => h i (by simp; omega)]
theorem low_bit {c n : Nat} (h : c < 2 ^ n) : c.testBit n = false := Nat.testBit_lt_two_pow h
theorem top_bit {c n : Nat} (h : c < 2 ^ n) : (c + 2 ^ n).testBit n = true := by
  rw [Nat.add_comm, Nat.testBit_two_pow_add_eq, low_bit h]; rfl
theorem top_low {c n i : Nat} (h : i < n) : (c + 2 ^ n).testBit i = c.testBit i := by
  rw [Nat.add_comm, Nat.testBit_two_pow_add_gt h]
theorem subR_low {l : Str} {rw : List Str} {c : Nat} (h : c < 2 ^ rw.length) : subR (l :: rw) c = subR rw c := by
  show (if c.testBit rw.length = true then _ else _) = _
  rw [low_bit h, if_neg (by simp)]
theorem subR_top {l : Str} {rw : List Str} {c : Nat} (h : c < 2 ^ rw.length) : subR (l :: rw) (c + 2 ^ rw.length) = l :: subR rw c := by
  show (if (c + 2 ^ rw.length).testBit rw.length = true then _ else _) = _
  rw [top_bit h, if_pos rfl, subR_congr rw _ c fun i hi => top_low hi]

theorem plR_get : ∀ (rw : List Str) (c : Nat), c < 2 ^ rw.length → (plR rw)[c]? = some (nmR (subR rw c))
  | [], c, h => by
    have : c = 0 := by simpa using h
    subst this; rfl
  | l :: rw, c, h => by
    have hl := plR_length rw
    rw [List.length_cons, Nat.pow_succ] at h
    unfold plR
    rcases Nat.lt_or_ge c (2 ^ rw.length) with q | q
    · rw [List.getElem?_append_left (by omega), plR_get rw c q, subR_low q]
    · obtain ⟨d, rfl⟩ : ∃ d, c = d + 2 ^ rw.length := ⟨c - 2 ^ rw.length, by omega⟩
      have hd : d < 2 ^ rw.length := by omega
      rw [List.getElem?_append_right (by omega), hl, Nat.add_sub_cancel, List.getElem?_map, plR_get rw d hd, subR_top hd]
      rfl
theorem szR_get : ∀ (rw : List Str) (c : Nat), c < 2 ^ rw.length → (szR rw)[c]? = some (subR rw c).length
  | [], c, h => by
    have : c = 0 := by simpa using h
    subst this; rfl
  | l :: rw, c, h => by
    have hl := szR_length rw
    rw [List.length_cons, Nat.pow_succ] at h
    unfold szR
    rcases Nat.lt_or_ge c (2 ^ rw.length) with q | q
    · rw [List.getElem?_append_left (by omega), szR_get rw c q, subR_low q]
    · obtain ⟨d, rfl⟩ : ∃ d, c = d + 2 ^ rw.length := ⟨c - 2 ^ rw.length, by omega⟩
      have hd : d < 2 ^ rw.length := by omega
      rw [List.getElem?_append_right (by omega), hl, Nat.add_sub_cancel, List.getElem?_map, szR_get rw d hd, subR_top hd]
      rfl

theorem subR_mem {P : Str → Prop} : ∀ (rw : List Str) (c : Nat), (∀ l ∈ rw, P l) → ∀ l ∈ subR rw c, P l
  | [], _, _, _, h => nomatch h
  | a :: rw, c, hp, l, h => by
    unfold subR at h
    split at h
    · rcases List.mem_cons.mp h with rfl | h
      · exact hp _ (.head _)
      · exact subR_mem rw c (fun x hx => hp x (.tail _ hx)) l h
    · exact subR_mem rw c (fun x hx => hp x (.tail _ hx)) l h

/-! names tell their words -/
def nmK : List Str → List Nat
  | [] => [67]
  | l :: v => nmK v ++ 46 :: l.cps.toList
theorem nm_cps : ∀ v : List Str, (nmR v).cps.toList = nmK v
  | [] => by decide +kernel
  | l :: v => by
    have e : (("." : Str)).cps.toList = [46] := by decide +kernel
    simp only [nmR, nmK, Str.cps_append, Array.toList_append, nm_cps v, e, List.append_assoc, List.singleton_append]
theorem lt_b : (("b" : Str)).cps.toList = [98] := by decide +kernel
theorem lt_a : (("a" : Str)).cps.toList = [97] := by decide +kernel
theorem lt_d : (("de_AT" : Str)).cps.toList = [100, 101, 95, 65, 84] := by decide +kernel
theorem letter_cases {l : Str} (h : l ∈ letters) : l = "b" ∨ l = "a" ∨ l = "de_AT" := by
  simpa [letters] using h
theorem letter_len {l : Str} (h : l ∈ letters) : 1 ≤ l.cps.toList.length ∧ l.cps.toList.length ≤ 5 ∧ ∀ x ∈ l.cps.toList, x < 128 := by
  rcases letter_cases h with rfl | rfl | rfl
  · rw [lt_b]; decide
  · rw [lt_a]; decide
  · rw [lt_d]; decide
theorem nmK_pos (v : List Str) : 1 ≤ (nmK v).length := by
  cases v with
  | nil => simp [nmK]
  | cons l v => simp [nmK]; omega
theorem nmK_inj : ∀ (u v : List Str), (∀ l ∈ u, l ∈ letters) → (∀ l ∈ v, l ∈ letters) → nmK u = nmK v → u = v
  | [], [], _, _, _ => rfl
  | [], l :: v, _, hv, e => by
    have h1 := congrArg List.length e
    have h2 := nmK_pos v
    simp [nmK] at h1
    omega
  | l :: u, [], hu, _, e => by
    have h1 := congrArg List.length e
    have h2 := nmK_pos u
    simp [nmK] at h1
    omega
  | l :: u, l' :: v, hu, hv, e => by
    have key : l = l' := by
      have h1 := congrArg List.getLast? e
      simp only [nmK] at h1
      rcases letter_cases (hu l (.head _)) with rfl | rfl | rfl <;> rcases letter_cases (hv l' (.head _)) with rfl | rfl | rfl <;> first | rfl | (simp [lt_a, lt_b, lt_d] at h1)
    subst key
    have : nmK u = nmK v := List.append_cancel_right e
    rw [nmK_inj u v (fun x hx => hu x (.tail _ hx)) (fun x hx => hv x (.tail _ hx)) this]
theorem nmR_inj {u v : List Str} (hu : ∀ l ∈ u, l ∈ letters) (hv : ∀ l ∈ v, l ∈ letters) (e : nmR u = nmR v) : u = v :=
  nmK_inj u v hu hv (by rw [← nm_cps, ← nm_cps, e])
theorem nmK_small : ∀ v : List Str, (∀ l ∈ v, l ∈ letters) → (nmK v).length ≤ 1 + 6 * v.length ∧ ∀ x ∈ nmK v, x < 128
  | [], _ => by simp [nmK]
  | l :: v, h => by
    have ih := nmK_small v fun x hx => h x (.tail _ hx)
    have hl := letter_len (h l (.head _))
    refine ⟨?_, fun x hx => ?_⟩
    · simp only [nmK, List.length_append, List.length_cons]; omega
    · simp only [nmK, List.mem_append, List.mem_cons] at hx
      rcases hx with hx | rfl | hx
      · exact ih.2 x hx
      · decide
      · exact hl.2.2 x hx
theorem nmR_len {v : List Str} (h : ∀ l ∈ v, l ∈ letters) : (nmR v).length ≤ 1 + 6 * v.length := by
  have := (nmK_small v h).1
  rw [← nm_cps] at this
  simpa [Str.length] using this
theorem nmR_ok {v : List Str} (h : ∀ l ∈ v, l ∈ letters) : PyData.strOk (nmR v) = true := by
  have := (nmK_small v h).2
  rw [← nm_cps] at this
  unfold PyData.strOk
  rw [← Array.all_toList, List.all_eq_true]
  intro x hx
  have := this x hx
  exact decide_eq_true (by omega)
theorem subR_length_le : ∀ (rw : List Str) (c : Nat), (subR rw c).length ≤ rw.length
  | [], _ => Nat.le_refl _
  | l :: rw, c => by
    have := subR_length_le rw c
    unfold subR
    split <;> simp <;> omega
theorem plR_mem {rw : List Str} (h : ∀ l ∈ rw, l ∈ letters) {x : Str} (hx : x ∈ plR rw) : ∃ c, c < 2 ^ rw.length ∧ x = nmR (subR rw c) := by
  obtain ⟨c, hc, rfl⟩ := List.mem_iff_getElem.mp hx
  rw [plR_length] at hc
  refine ⟨c, hc, ?_⟩
  have := plR_get rw c hc
  rw [List.getElem?_eq_getElem (by rw [plR_length]; exact hc)] at this
  exact Option.some.inj this
theorem plR_ok {rw : List Str} (h : ∀ l ∈ rw, l ∈ letters) : ∀ x ∈ plR rw, PyData.strOk x = true ∧ x.length ≤ 1 + 6 * rw.length := by
  intro x hx
  obtain ⟨c, hc, rfl⟩ := plR_mem h hx
  have hs := subR_mem rw c h
  have := nmR_len hs
  have := subR_length_le rw c
  exact ⟨nmR_ok hs, by omega⟩

/-! Bjorner's function, peeled from the right -/
def Tz : List Str → (List Str → Int) → Int
  | [], F => F []
  | a :: u, F => Tz u (fun v => F (a :: v)) - (if u.head? = some a then 0 else Tz u F)
theorem Tz_congr : ∀ (u : List Str) {F G : List Str → Int}, (∀ v, F v = G v) → Tz u F = Tz u G
  | u, F, G, h => by rw [funext h]
theorem Tz_add : ∀ (u : List Str) (F G : List Str → Int), Tz u (fun v => F v + G v) = Tz u F + Tz u G
  | [], _, _ => rfl
  | a :: u, F, G => by
    unfold Tz
    rw [Tz_add u (fun v => F (a :: v)) (fun v => G (a :: v)), Tz_add u F G]
    split <;> omega
theorem Tz_zero : ∀ u : List Str, Tz u (fun _ => 0) = 0
  | [] => rfl
  | a :: u => by unfold Tz; rw [Tz_zero u]; split <;> rfl
theorem Tz_mul : ∀ (u : List Str) (k : Int) (F : List Str → Int), Tz u (fun v => k * F v) = k * Tz u F
  | [], _, _ => rfl
  | a :: u, k, F => by
    unfold Tz
    rw [Tz_mul u k (fun v => F (a :: v)), Tz_mul u k F, Int.mul_sub]
    split
    · simp
    · rfl
def ind (p : Prop) [Decidable p] : Int := if p then 1 else 0
theorem ind_congr {p q : Prop} [Decidable p] [Decidable q] (h : p ↔ q) : ind p = ind q := by
  unfold ind
  by_cases hp : p
  · rw [if_pos hp, if_pos (h.mp hp)]
  · rw [if_neg hp, if_neg (fun x => hp (h.mpr x))]
open Classical in
theorem Tz_sub : ∀ (u x : List Str), Tz u (fun v => ind (x.Sublist v)) = ind (x = u)
  | [], x => by
    show ind (x.Sublist []) = _
    exact ind_congr List.sublist_nil
  | a :: u, x => by
    unfold Tz
    have ih := Tz_sub u
    by_cases hx : ∃ x', x = a :: x'
    · obtain ⟨x', rfl⟩ := hx
      rw [Tz_congr u (G := fun v => ind (x'.Sublist v)) (fun v => ind_congr List.cons_sublist_cons), ih x', ih (a :: x')]
      by_cases hu : u.head? = some a
      · rw [if_pos hu, Int.sub_zero]
        exact ind_congr ⟨fun e => by rw [e], fun e => (List.cons.inj e).2⟩
      · rw [if_neg hu]
        have h0 : ind (a :: x' = u) = 0 := if_neg (fun e => hu (by rw [← e]; rfl))
        rw [h0, Int.sub_zero]
        exact ind_congr ⟨fun e => by rw [e], fun e => (List.cons.inj e).2⟩
    · have hc : ∀ v, (x.Sublist (a :: v) ↔ x.Sublist v) := by
        intro v
        constructor
        · intro s
          cases s with
          | cons _ s => exact s
          | cons_cons _ s => exact absurd ⟨_, rfl⟩ hx
        · exact fun s => s.cons a
      rw [Tz_congr u (G := fun v => ind (x.Sublist v)) (fun v => ind_congr (hc v)), ih x]
      have h0 : ind (x = a :: u) = 0 := if_neg (fun e => hx ⟨_, e⟩)
      rw [h0]
      by_cases hu : u.head? = some a
      · rw [if_pos hu, Int.sub_zero]
        exact if_neg (fun e => hx (by
          cases u with
          | nil => cases hu
          | cons b u => cases hu; exact ⟨_, e⟩))
      · rw [if_neg hu]; omega
end Mine
end

section
open PySem PySem.W PyProof.Rows PySem.Calls
set_option Elab.async false
set_option maxRecDepth 100000
set_option maxHeartbeats 4000000
namespace Mine
/-! ## the parts of a choice -/
def mlist : Nat → Nat → Nat → List Nat
  | 0, _, _ => [0]
  | n + 1, W, K => if W.testBit n then (mlist n W K).map (fun A => A + 2 ^ n) ++ (if K.testBit n then [] else mlist n W K) else mlist n W K
def partsF : Nat → Nat → Nat → List Nat
  | 0, _, _ => []
  | f + 1, c, p => if p = 0 then [] else ((p - 1) &&& c) :: partsF f c ((p - 1) &&& c)
theorem partsF_eq (c : Nat) : ∀ (f p : Nat), p ≤ f → partsF f c p = partsGo c p
  | 0, p, h => by
    have : p = 0 := by omega
    subst this; rw [partsGo_zero]; rfl
  | f + 1, p, h => by
    unfold partsF
    by_cases hp : p = 0
    · rw [if_pos hp, hp, partsGo_zero]
    · rw [if_neg hp, partsGo_pos c hp, partsF_eq c f _ (by have := Nat.and_le_left (n := p - 1) (m := c); omega)]
theorem parts_F {c : Nat} (h : c < 32) : partsOf c = c :: partsF 32 c c := by
  unfold partsOf
  rw [partsF_eq c 32 c (by omega)]
def keepK (K : Nat) (l : List Nat) : List Nat := l.filter fun A => A &&& K == K
theorem parts_dec : ∀ W, W < 32 → ∀ K, K < 32 → (K &&& W == K) = true → keepK K (W :: partsF 32 W W) = mlist 5 W K := by decide +kernel
theorem parts_mem1 : ∀ W, W < 32 → ∀ A ∈ W :: partsF 32 W W, A &&& W = A := by decide +kernel
theorem parts_mem2 : ∀ W, W < 32 → ∀ A, A < 32 → A &&& W = A → A ∈ W :: partsF 32 W W := by decide +kernel
theorem mlist_up {W n K : Nat} (h : W < 2 ^ n) : ∀ j, mlist (n + j) W K = mlist n W K
  | 0 => rfl
  | j + 1 => by
    show (if W.testBit (n + j) = true then _ else mlist (n + j) W K) = _
    rw [Nat.testBit_lt_two_pow (Nat.lt_of_lt_of_le h (Nat.pow_le_pow_right (by decide) (Nat.le_add_right _ _))), if_neg (by simp), mlist_up h j]
theorem mlist_congr : ∀ (n W W' K K' : Nat), (∀ i, i < n → W.testBit i = W'.testBit i) → (∀ i, i < n → K.testBit i = K'.testBit i) → mlist n W K = mlist n W' K'
  | 0, _, _, _, _, _, _ => rfl
  | n + 1, W, W', K, K', h, k => by
    unfold mlist
    rw [h n (Nat.lt_succ_self _), k n (Nat.lt_succ_self _), mlist_congr n W W' K K' (fun i hi => h i (by omega)) fun i hi => k i (by omega)]
theorem mlist_lt : ∀ (n W K A : Nat), A ∈ mlist n W K → A < 2 ^ n
  | 0, _, _, A, h => by simp [mlist] at h; omega
  | n + 1, W, K, A, h => by
    unfold mlist at h
    rw [Nat.pow_succ]
    split at h
    · rcases List.mem_append.mp h with h | h
      · obtain ⟨B, hB, rfl⟩ := List.mem_map.mp h
        have := mlist_lt n W K B hB
        omega
      · split at h
        · cases h
        · have := mlist_lt n W K A h
          omega
    · have := mlist_lt n W K A h
      omega

theorem repK_lt : ∀ (rw : List Str) (W : Nat), repK rw W < 2 ^ rw.length
  | [], _ => by simp [repK]
  | l :: rw, W => by
    have := repK_lt rw W
    unfold repK
    rw [List.length_cons, Nat.pow_succ]
    split <;> omega
theorem repK_congr : ∀ (rw : List Str) (c d : Nat), (∀ i, i < rw.length → c.testBit i = d.testBit i) → repK rw c = repK rw d
  | [], _, _, _ => rfl
  | l :: rw, c, d, h => by
    unfold repK
    rw [h rw.length (by simp), repK_congr rw c d fun i hi => h i (by simp; omega), subR_congr rw c d fun i hi => h i (by simp; omega)]
theorem repK_sub : ∀ (rw : List Str) (W i : Nat), (repK rw W).testBit i = true → W.testBit i = true
  | [], W, i, h => by simp [repK] at h
  | l :: rw, W, i, h => by
    have hlt := repK_lt rw W
    unfold repK at h
    split at h
    · rename_i hc
      rcases Nat.lt_trichotomy i rw.length with q | q | q
      · rw [top_low q] at h; exact repK_sub rw W i h
      · rw [q]; exact hc.1
      · rw [Nat.testBit_lt_two_pow (Nat.lt_of_lt_of_le (by rw [Nat.pow_succ]; omega : repK rw W + 2 ^ rw.length < 2 ^ (rw.length + 1)) (Nat.pow_le_pow_right (by decide) q))] at h
        cases h
    · exact repK_sub rw W i h

def sg (a b : Nat) : Int := if (a + b) % 2 = 0 then 1 else -1
theorem sg_both (a b : Nat) : sg (a + 1) (b + 1) = sg a b := by
  unfold sg
  have : (a + 1 + (b + 1)) % 2 = (a + b) % 2 := by omega
  rw [this]
theorem sg_one (a b : Nat) : sg (a + 1) b = - sg a b := by
  unfold sg
  by_cases h : (a + b) % 2 = 0
  · rw [if_pos h, if_neg (by omega)]
  · rw [if_neg h, if_pos (by omega)]; rfl
theorem sum_map_add {α : Type} (l : List α) (f g : α → Int) : (l.map fun x => f x + g x).sum = (l.map f).sum + (l.map g).sum := by
  induction l with
  | nil => rfl
  | cons a l ih => simp only [List.map_cons, List.sum_cons, ih]; omega
theorem sum_map_neg {α : Type} (l : List α) (f : α → Int) : (l.map fun x => - f x).sum = - (l.map f).sum := by
  induction l with
  | nil => rfl
  | cons a l ih => simp only [List.map_cons, List.sum_cons, ih]; omega
theorem sum_map_congr {α : Type} (l : List α) (f g : α → Int) (h : ∀ x ∈ l, f x = g x) : (l.map f).sum = (l.map g).sum := by rw [List.map_congr_left h]

theorem repK_cons (l : Str) (rw : List Str) (c : Nat) : repK (l :: rw) c = if c.testBit rw.length = true ∧ (subR rw c).head? = some l then repK rw c + 2 ^ rw.length else repK rw c := by
  show (repK rw c + if _ then _ else _) = _
  split
  · rfl
  · exact Nat.add_zero _
theorem Tz_cons (a : Str) (u : List Str) (F : List Str → Int) : Tz (a :: u) F = Tz u (fun v => F (a :: v)) - (if u.head? = some a then 0 else Tz u F) := rfl

theorem msum : ∀ (rw : List Str) (W : Nat) (F : List Str → Int),
    ((mlist rw.length W (repK rw W)).map fun A => sg (subR rw W).length (subR rw A).length * F (subR rw A)).sum = Tz (subR rw W) F
  | [], W, F => by
    have : sg 0 0 = 1 := rfl
    simp [mlist, subR, Tz, this]
  | l :: rw, W, F => by
    have hK := repK_lt rw W
    have lowK : ∀ i, i < rw.length → (repK (l :: rw) W).testBit i = (repK rw W).testBit i := fun i hi => by
      rw [repK_cons]
      split
      · exact top_low hi
      · rfl
    have hm : mlist rw.length W (repK (l :: rw) W) = mlist rw.length W (repK rw W) := mlist_congr _ _ _ _ _ (fun _ _ => rfl) lowK
    have hsub : ∀ A ∈ mlist rw.length W (repK rw W), A < 2 ^ rw.length := fun A hA => mlist_lt _ _ _ _ hA
    rw [List.length_cons]
    show ((if W.testBit rw.length = true then (mlist rw.length W (repK (l :: rw) W)).map (fun A => A + 2 ^ rw.length) ++ (if (repK (l :: rw) W).testBit rw.length = true then [] else mlist rw.length W (repK (l :: rw) W)) else mlist rw.length W (repK (l :: rw) W)).map _).sum = Tz (if W.testBit rw.length = true then l :: subR rw W else subR rw W) F
    rw [hm]
    by_cases hW : W.testBit rw.length = true
    · rw [if_pos hW, if_pos hW]
      have hsW : subR (l :: rw) W = l :: subR rw W := by show (if _ then _ else _) = _; rw [if_pos hW]
      have hKt : (repK (l :: rw) W).testBit rw.length = true ↔ (subR rw W).head? = some l := by
        rw [repK_cons]
        by_cases hh : (subR rw W).head? = some l
        · rw [if_pos ⟨hW, hh⟩, top_bit hK]; simp [hh]
        · rw [if_neg (fun q => hh q.2), low_bit hK]; simp [hh]
      rw [List.map_append, List.sum_append, List.map_map]
      have e1 : ((mlist rw.length W (repK rw W)).map ((fun A => sg (subR (l :: rw) W).length (subR (l :: rw) A).length * F (subR (l :: rw) A)) ∘ fun A => A + 2 ^ rw.length)).sum = Tz (subR rw W) (fun v => F (l :: v)) := by
        rw [← msum rw W (fun v => F (l :: v))]
        refine sum_map_congr _ _ _ fun A hA => ?_
        show sg (subR (l :: rw) W).length (subR (l :: rw) (A + 2 ^ rw.length)).length * F (subR (l :: rw) (A + 2 ^ rw.length)) = _
        rw [subR_top (hsub A hA), hsW, List.length_cons, List.length_cons, sg_both]
      rw [e1]
      rw [Tz_cons]
      by_cases hh : (subR rw W).head? = some l
      · rw [if_pos (hKt.mpr hh), if_pos hh]; simp
      · rw [if_neg (fun q => hh (hKt.mp q)), if_neg hh]
        have e2 : ((mlist rw.length W (repK rw W)).map (fun A => sg (subR (l :: rw) W).length (subR (l :: rw) A).length * F (subR (l :: rw) A))).sum = - Tz (subR rw W) F := by
          rw [← msum rw W F, ← sum_map_neg]
          refine sum_map_congr _ _ _ fun A hA => ?_
          rw [subR_low (hsub A hA), hsW, List.length_cons, sg_one, Int.neg_mul]
        rw [e2]; omega
    · rw [if_neg hW, if_neg hW]
      have hsW : subR (l :: rw) W = subR rw W := by show (if _ then _ else _) = _; rw [if_neg hW]
      rw [← msum rw W F]
      refine sum_map_congr _ _ _ fun A hA => ?_
      rw [subR_low (hsub A hA), hsW]

/-! sublists are parts -/
theorem and_sub {A W : Nat} (h : A &&& W = A) (i : Nat) (b : A.testBit i = true) : W.testBit i = true := by
  rw [← h, Nat.testBit_and] at b
  exact (Bool.and_eq_true_iff.mp b).2
theorem sub_and {A W : Nat} (h : ∀ i, A.testBit i = true → W.testBit i = true) : A &&& W = A := by
  apply Nat.eq_of_testBit_eq
  intro i
  rw [Nat.testBit_and]
  cases e : A.testBit i with
  | false => rfl
  | true => rw [h i e]; rfl
theorem sub_of_part : ∀ (rw : List Str) (A W : Nat), (∀ i, i < rw.length → A.testBit i = true → W.testBit i = true) → (subR rw A).Sublist (subR rw W)
  | [], _, _, _ => List.Sublist.slnil
  | l :: rw, A, W, h => by
    have ih := sub_of_part rw A W fun i hi => h i (by simp; omega)
    have ht := h rw.length (by simp)
    unfold subR
    by_cases hA : A.testBit rw.length = true
    · rw [if_pos hA, if_pos (ht hA)]; exact ih.cons_cons l
    · rw [if_neg hA]
      split
      · exact ih.cons l
      · exact ih
theorem part_of_sub : ∀ (rw : List Str) (W : Nat) (x : List Str), x.Sublist (subR rw W) → ∃ A, A < 2 ^ rw.length ∧ (∀ i, A.testBit i = true → W.testBit i = true) ∧ subR rw A = x
  | [], W, x, h => ⟨0, by simp, by simp, by rw [List.sublist_nil.mp h]; rfl⟩
  | l :: rw, W, x, h => by
    have key : ∀ y, y.Sublist (subR rw W) → ∃ A, A < 2 ^ (l :: rw).length ∧ (∀ i, A.testBit i = true → W.testBit i = true) ∧ subR (l :: rw) A = y := by
      intro y hy
      obtain ⟨A, h1, h2, h3⟩ := part_of_sub rw W y hy
      exact ⟨A, by rw [List.length_cons, Nat.pow_succ]; omega, h2, by rw [subR_low h1]; exact h3⟩
    unfold subR at h
    by_cases hW : W.testBit rw.length = true
    · rw [if_pos hW] at h
      cases h with
      | cons _ s => exact key x s
      | cons_cons _ s =>
        rename_i y
        obtain ⟨A, h1, h2, h3⟩ := part_of_sub rw W y s
        refine ⟨A + 2 ^ rw.length, by rw [List.length_cons, Nat.pow_succ]; omega, fun i hi => ?_, by rw [subR_top h1, h3]⟩
        rcases Nat.lt_trichotomy i rw.length with q | q | q
        · rw [top_low q] at hi; exact h2 i hi
        · rw [q]; exact hW
        · rw [Nat.testBit_lt_two_pow (Nat.lt_of_lt_of_le (by rw [Nat.pow_succ]; omega : A + 2 ^ rw.length < 2 ^ (rw.length + 1)) (Nat.pow_le_pow_right (by decide) q))] at hi
          cases hi
    · rw [if_neg hW] at h
      exact key x h
end Mine
end

section
open PySem PySem.W PyProof.Rows PySem.Calls
set_option Elab.async false
set_option maxRecDepth 100000
set_option maxHeartbeats 4000000
namespace Mine
/-! ## rows in order -/
theorem slt_total {x y : Str} (h : ¬ slt y x) (n : y ≠ x) : slt x y := by
  apply Classical.byContradiction
  intro h'
  apply n
  have : y.cps.toList = x.cps.toList := List.le_antisymm (List.not_lt.mp h') (List.not_lt.mp h)
  exact Str.ext' (Array.toList_inj.mp this)
theorem bis_mem {ss : List Str} {x : Str} {k : Nat} (hr : ss.Pairwise slt) (hb : IsBis ss x k) (hx : x ∈ ss) : ss[k]? = some x := by
  obtain ⟨i, hi, e⟩ := List.mem_iff_getElem.mp hx
  have e' : ss[i]? = some x := by rw [List.getElem?_eq_getElem hi, e]
  rcases Nat.lt_trichotomy i k with q | q | q
  · exact absurd (hb.lo i x q e') (slt_irrefl x)
  · rw [← q]; exact e'
  · have hk : k < ss.length := by omega
    have ek : ss[k]? = some ss[k] := List.getElem?_eq_getElem hk
    exact absurd (rise_get hr q ek e') (hb.hi k _ (Nat.le_refl _) ek)
theorem bis_new {ss : List Str} {x : Str} {k : Nat} (hr : ss.Pairwise slt) (hb : IsBis ss x k) (hx : x ∉ ss) : (ss.take k ++ x :: ss.drop k).Pairwise slt := by
  have hlow : ∀ y ∈ ss.take k, slt y x := by
    intro y hy
    obtain ⟨i, hi, e⟩ := List.mem_iff_getElem.mp hy
    rw [List.length_take] at hi
    refine hb.lo i y (by omega) ?_
    rw [List.getElem_take] at e
    rw [List.getElem?_eq_getElem (by omega), e]
  have hup : ∀ y ∈ ss.drop k, slt x y := by
    intro y hy
    obtain ⟨i, hi, e⟩ := List.mem_iff_getElem.mp hy
    rw [List.getElem_drop] at e
    rw [List.length_drop] at hi
    have e' : ss[k + i]? = some y := by rw [List.getElem?_eq_getElem (by omega), e]
    exact slt_total (hb.hi (k + i) y (by omega) e') fun q => hx (q ▸ List.mem_of_getElem? e')
  have hd := hr.sublist (List.take_sublist k ss)
  have hd' := hr.sublist (List.drop_sublist k ss)
  refine List.pairwise_append.mpr ⟨hd, List.pairwise_cons.mpr ⟨hup, hd'⟩, ?_⟩
  intro y hy z hz
  rcases List.mem_cons.mp hz with rfl | hz
  · exact hlow y hy
  · exact slt_trans (hlow y hy) (hup z hz)
theorem ins_mem {ss : List Str} {x : Str} {k : Nat} (y : Str) : y ∈ ss.take k ++ x :: ss.drop k ↔ y ∈ ss ∨ y = x := by
  have : y ∈ ss ↔ y ∈ ss.take k ∨ y ∈ ss.drop k := by rw [← List.mem_append, List.take_append_drop]
  rw [this, List.mem_append, List.mem_cons]
  constructor
  · rintro (h | h | h)
    · exact .inl (.inl h)
    · exact .inr h
    · exact .inl (.inr h)
  · rintro ((h | h) | h)
    · exact .inl h
    · exact .inr (.inr h)
    · exact .inr (.inl h)
theorem rise_nodup {ss : List Str} (h : ss.Pairwise slt) : ss.Nodup := by
  refine List.Pairwise.imp ?_ h
  intro a b q e
  subst e
  exact slt_irrefl _ q
theorem risingS_rise : ∀ (p : Str) (ss : List Str), risingS p ss = true → (p :: ss).Nodup → (p :: ss).Pairwise slt
  | p, [], _, _ => List.pairwise_cons.mpr ⟨by simp, List.Pairwise.nil⟩
  | p, x :: r, h, n => by
    have h' : (!PySem.Spec.ltCps x.cps.toList p.cps.toList && risingS x r) = true := h
    rw [Bool.and_eq_true] at h'
    have ih := risingS_rise x r h'.2 (List.nodup_cons.mp n).2
    have hlt : slt p x := by
      refine slt_total ?_ fun e => (List.nodup_cons.mp n).1 (e ▸ .head _)
      intro q
      have := h'.1
      rw [ltCps_eq, decide_eq_true (show x.cps.toList < p.cps.toList from q)] at this
      cases this
    refine List.pairwise_cons.mpr ⟨fun y hy => ?_, ih⟩
    rcases List.mem_cons.mp hy with rfl | hy
    · exact hlt
    · exact slt_trans hlt ((List.pairwise_cons.mp ih).1 y hy)
theorem sortedS_rise {ss : List Str} (h : sortedS ss = true) (n : ss.Nodup) : ss.Pairwise slt := by
  cases ss with
  | nil => exact List.Pairwise.nil
  | cons p r => exact risingS_rise p r h n
theorem rise_eq : ∀ {a b : List Str}, a.Pairwise slt → b.Pairwise slt → (∀ x, x ∈ a ↔ x ∈ b) → a = b
  | [], [], _, _, _ => rfl
  | [], y :: b, _, _, h => by have := (h y).mpr (.head _); cases this
  | x :: a, [], _, _, h => by have := (h x).mp (.head _); cases this
  | x :: a, y :: b, ha, hb, h => by
    have ha' := List.pairwise_cons.mp ha
    have hb' := List.pairwise_cons.mp hb
    have e : x = y := by
      rcases List.mem_cons.mp ((h x).mp (.head _)) with e | e
      · exact e
      · rcases List.mem_cons.mp ((h y).mpr (.head _)) with e' | e'
        · exact e'.symm
        · exact absurd (slt_trans (hb'.1 x e) (ha'.1 y e')) (slt_irrefl _)
    subst e
    congr 1
    refine rise_eq ha'.2 hb'.2 fun z => ?_
    constructor
    · intro hz
      rcases List.mem_cons.mp ((h z).mp (.tail _ hz)) with e | e
      · subst e; exact absurd (ha'.1 _ hz) (slt_irrefl _)
      · exact e
    · intro hz
      rcases List.mem_cons.mp ((h z).mpr (.tail _ hz)) with e | e
      · subst e; exact absurd (hb'.1 _ hz) (slt_irrefl _)
      · exact e
theorem sorted_row {row zs ss : List Str} (hr : row.Pairwise slt) (hz : zs.Nodup) (hm : ∀ x, x ∈ row ↔ x ∈ zs) (hp : ss.Perm zs) (hs : sortedS ss = true) : row = ss :=
  rise_eq hr (sortedS_rise hs (hp.nodup_iff.mpr hz)) fun x => (hm x).trans hp.mem_iff.symm

/-! ## sums -/
def withinF (pl : List Nat) (parts : List Nat) : List Nat :=
  parts.foldl (fun acc A => if pl.getD A 0 ∈ acc then acc else acc ++ [pl.getD A 0]) []
def sumF (pl : List Nat) (wz : List Int) (parts : List Nat) : Int := ((withinF pl parts).map fun q => wz.getD q 0).sum
def toldStep (sz pl : List Nat) (sums : List Int) (W K : Nat) (acc : Int) (A : Nat) : Int :=
  if A &&& K = K then (if Int.fmod ((sz.getD W 0 : Int) - (sz.getD A 0 : Int)) 2 = 0 then acc + sums.getD (pl.getD A 0) 0 else acc - sums.getD (pl.getD A 0) 0) else acc
def toldF (sz pl : List Nat) (sums : List Int) (W K : Nat) (parts : List Nat) : Int := parts.foldl (toldStep sz pl sums W K) 0

theorem within_go (pl : List Nat) : ∀ (parts acc : List Nat), acc.Nodup →
    (parts.foldl (fun acc A => if pl.getD A 0 ∈ acc then acc else acc ++ [pl.getD A 0]) acc).Nodup ∧
    ∀ q, q ∈ parts.foldl (fun acc A => if pl.getD A 0 ∈ acc then acc else acc ++ [pl.getD A 0]) acc ↔ q ∈ acc ∨ ∃ A ∈ parts, pl.getD A 0 = q
  | [], acc, h => ⟨h, by simp⟩
  | A :: r, acc, h => by
    rw [List.foldl_cons]
    by_cases hq : pl.getD A 0 ∈ acc
    · rw [if_pos hq]
      obtain ⟨i1, i2⟩ := within_go pl r acc h
      refine ⟨i1, fun q => (i2 q).trans ?_⟩
      constructor
      · rintro (e | ⟨B, hB, e⟩)
        · exact .inl e
        · exact .inr ⟨B, .tail _ hB, e⟩
      · rintro (e | ⟨B, hB, e⟩)
        · exact .inl e
        · rcases List.mem_cons.mp hB with rfl | hB
          · exact .inl (e ▸ hq)
          · exact .inr ⟨B, hB, e⟩
    · rw [if_neg hq]
      have hn : (acc ++ [pl.getD A 0]).Nodup := by
        refine List.nodup_append.mpr ⟨h, by simp, ?_⟩
        intro a ha b hb e
        rw [List.mem_singleton.mp hb] at e
        exact hq (e ▸ ha)
      obtain ⟨i1, i2⟩ := within_go pl r _ hn
      refine ⟨i1, fun q => (i2 q).trans ?_⟩
      constructor
      · rintro (e | ⟨B, hB, e⟩)
        · rcases List.mem_append.mp e with e | e
          · exact .inl e
          · exact .inr ⟨A, .head _, (List.mem_singleton.mp e).symm⟩
        · exact .inr ⟨B, .tail _ hB, e⟩
      · rintro (e | ⟨B, hB, e⟩)
        · exact .inl (List.mem_append_left _ e)
        · rcases List.mem_cons.mp hB with rfl | hB
          · exact .inl (List.mem_append_right _ (by rw [e]; simp))
          · exact .inr ⟨B, hB, e⟩
theorem within_spec (pl parts : List Nat) : (withinF pl parts).Nodup ∧ ∀ q, q ∈ withinF pl parts ↔ ∃ A ∈ parts, pl.getD A 0 = q := by
  obtain ⟨h1, h2⟩ := within_go pl parts [] List.nodup_nil
  exact ⟨h1, fun q => (h2 q).trans (by simp)⟩

theorem told_go (sz pl : List Nat) (sums : List Int) (W K : Nat) : ∀ (parts : List Nat) (acc : Int),
    parts.foldl (toldStep sz pl sums W K) acc = acc + ((keepK K parts).map fun A => sg (sz.getD W 0) (sz.getD A 0) * sums.getD (pl.getD A 0) 0).sum
  | [], acc => by simp [keepK]
  | A :: r, acc => by
    rw [List.foldl_cons, told_go sz pl sums W K r]
    unfold toldStep keepK
    by_cases hK : A &&& K = K
    · rw [if_pos hK, List.filter_cons_of_pos (by simp [hK]), List.map_cons, List.sum_cons]
      have hpar : Int.fmod ((sz.getD W 0 : Int) - (sz.getD A 0 : Int)) 2 = 0 ↔ (sz.getD W 0 + sz.getD A 0) % 2 = 0 := by
        rw [Int.fmod_eq_emod_of_nonneg _ (by decide)]
        omega
      unfold sg
      by_cases hp : (sz.getD W 0 + sz.getD A 0) % 2 = 0
      · rw [if_pos (hpar.mpr hp), if_pos hp]; omega
      · rw [if_neg (fun q => hp (hpar.mp q)), if_neg hp]; omega
    · rw [if_neg hK, List.filter_cons_of_neg (by simp [hK])]

theorem sum_ind (f : Nat → Int) (a : Nat) : ∀ m, ((List.range m).map fun i => f i * ind (i = a)).sum = if a < m then f a else 0
  | 0 => by simp
  | m + 1 => by
    rw [List.range_succ, List.map_append, List.sum_append, sum_ind f a m]
    unfold ind
    by_cases h : m = a
    · subst h; simp
    · simp [h]
      by_cases h2 : a < m
      · rw [if_pos h2, if_pos (by omega)]
      · rw [if_neg h2, if_neg (by omega)]
theorem sum_members (f : Nat → Int) (m : Nat) : ∀ (l : List Nat), l.Nodup → (∀ a ∈ l, a < m) → (l.map f).sum = ((List.range m).map fun i => f i * ind (i ∈ l)).sum
  | [], _, _ => by
    have e : ∀ r : List Nat, (r.map fun i => f i * ind (i ∈ ([] : List Nat))).sum = 0 := by
      intro r
      induction r with
      | nil => rfl
      | cons a r ih =>
        rw [List.map_cons, List.sum_cons, ih]
        have : ind (a ∈ ([] : List Nat)) = 0 := if_neg (by simp)
        rw [this, Int.mul_zero]; rfl
    rw [e]; rfl
  | a :: l, hn, hm => by
    have hn' := List.nodup_cons.mp hn
    rw [List.map_cons, List.sum_cons, sum_members f m l hn'.2 fun b hb => hm b (.tail _ hb)]
    have e := sum_ind f a m
    rw [if_pos (hm a (.head _))] at e
    rw [← e, ← sum_map_add]
    refine sum_map_congr _ _ _ fun i _ => ?_
    unfold ind
    by_cases h1 : i = a
    · subst h1; simp [hn'.1]
    · simp [h1]

open Classical in
theorem Tz_sum {β : Type} (u : List Str) (f : β → Int) (x : β → List Str) : ∀ l : List β,
    Tz u (fun v => (l.map fun i => f i * ind ((x i).Sublist v)).sum) = (l.map fun i => f i * ind (x i = u)).sum
  | [] => by simp [Tz_zero]
  | a :: l => by
    simp only [List.map_cons, List.sum_cons]
    rw [Tz_add u (fun v => f a * ind ((x a).Sublist v)) (fun v => (l.map fun i => f i * ind ((x i).Sublist v)).sum), Tz_sum u f x l, Tz_mul, Tz_sub]

/-- the law: each worth comes back -/
theorem law_plain {rw : List Str} {row : List Str} {pl : List Nat} {wz sums : List Int} (hL : ∀ l ∈ rw, l ∈ letters) (h5 : rw.length ≤ 5)
    (hr : row.Pairwise slt) (hm : ∀ x, x ∈ row ↔ x ∈ plR rw) (hpl : pl.length = 2 ^ rw.length)
    (hpg : ∀ c x, (plR rw)[c]? = some x → row[pl.getD c 0]? = some x)
    (hsums : ∀ q, q < row.length → sums.getD q 0 = sumF pl wz (partsOf (pl.idxOf q))) {p : Nat} (hp : p < row.length) :
    toldF (szR rw) pl sums (pl.idxOf p) (repK rw (pl.idxOf p)) (partsOf (pl.idxOf p)) = wz.getD p 0 := by
  have hn32 : 2 ^ rw.length ≤ 32 := Nat.pow_le_pow_right (n := 2) (by decide) h5
  have nod := rise_nodup hr
  have inj : ∀ {i j : Nat} {x : Str}, row[i]? = some x → row[j]? = some x → i = j := by
    intro i j x hi hj
    rcases Nat.lt_trichotomy i j with q | q | q
    · exact absurd (rise_get hr q hi hj) (slt_irrefl _)
    · exact q
    · exact absurd (rise_get hr q hj hi) (slt_irrefl _)
  have at_c : ∀ c, c < 2 ^ rw.length → row[pl.getD c 0]? = some (nmR (subR rw c)) := fun c hc => hpg c _ (plR_get rw c hc)
  have first : ∀ q, q < row.length → pl.idxOf q < 2 ^ rw.length ∧ pl.getD (pl.idxOf q) 0 = q := by
    intro q hq
    have hx : row[q] ∈ plR rw := (hm _).mp (List.getElem_mem hq)
    obtain ⟨c, hc, e⟩ := plR_mem hL hx
    have e1 := at_c c hc
    have e2 : row[q]? = some (nmR (subR rw c)) := by rw [List.getElem?_eq_getElem hq, e]
    have e3 := inj e1 e2
    have hmem : q ∈ pl := by
      rw [← e3, List.getD_eq_getElem?_getD, List.getElem?_eq_getElem (by omega)]
      exact List.getElem_mem _
    have hlt := List.idxOf_lt_length_of_mem hmem
    refine ⟨by omega, ?_⟩
    rw [List.getD_eq_getElem?_getD, List.getElem?_eq_getElem hlt]
    exact List.getElem_idxOf hlt
  have letr : ∀ c, ∀ l ∈ subR rw c, l ∈ letters := fun c => subR_mem rw c hL
  have uniq : ∀ q, q < row.length → ∀ c, c < 2 ^ rw.length → (pl.getD c 0 = q ↔ subR rw c = subR rw (pl.idxOf q)) := by
    intro q hq c hc
    have f := first q hq
    have e1 := at_c c hc
    have e2 := at_c _ f.1
    rw [f.2] at e2
    constructor
    · intro e
      rw [e, e2] at e1
      exact (nmR_inj (letr _) (letr _) (Option.some.inj e1)).symm
    · intro e
      rw [e] at e1
      exact inj e1 e2
  have sub_lt : ∀ {W A : Nat}, W < 2 ^ rw.length → A ∈ partsOf W → A < 2 ^ rw.length ∧ A &&& W = A := by
    intro W A hW hA
    rw [parts_F (by omega)] at hA
    have := parts_mem1 W (by omega) A hA
    have h2 : A &&& W ≤ W := Nat.and_le_right
    exact ⟨by omega, this⟩
  have wthn : ∀ q, q < row.length → ∀ q', (q' ∈ withinF pl (partsOf (pl.idxOf q)) ↔ q' < row.length ∧ (subR rw (pl.idxOf q')).Sublist (subR rw (pl.idxOf q))) := by
    intro q hq q'
    have f := first q hq
    rw [(within_spec _ _).2]
    constructor
    · rintro ⟨A, hA, e⟩
      have hs := sub_lt f.1 hA
      have hq' : q' < row.length := by
        have := at_c A hs.1
        rw [e] at this
        exact (List.getElem?_eq_some_iff.mp this).1
      refine ⟨hq', ?_⟩
      rw [← (uniq q' hq' A hs.1).mp e]
      exact sub_of_part rw A _ fun i _ => and_sub hs.2 i
    · rintro ⟨hq', hs⟩
      obtain ⟨A, h1, h2, h3⟩ := part_of_sub rw _ _ hs
      refine ⟨A, ?_, (uniq q' hq' A h1).mpr h3⟩
      rw [parts_F (by omega)]
      exact parts_mem2 _ (by omega) A (by omega) (sub_and h2)
  let S : List Str → Int := fun v => ((List.range row.length).map fun q' => wz.getD q' 0 * ind ((subR rw (pl.idxOf q')).Sublist v)).sum
  have hS : ∀ q, q < row.length → sums.getD q 0 = S (subR rw (pl.idxOf q)) := by
    intro q hq
    rw [hsums q hq]
    show ((withinF pl _).map fun q' => wz.getD q' 0).sum = _
    rw [sum_members (fun q' => wz.getD q' 0) row.length _ (within_spec _ _).1 fun a ha => ((wthn q hq a).mp ha).1]
    refine sum_map_congr _ _ _ fun i hi => ?_
    congr 1
    refine ind_congr ((wthn q hq i).trans ⟨fun e => e.2, fun e => ⟨by simpa using hi, e⟩⟩)
  have f := first p hp
  have hK : (repK rw (pl.idxOf p) &&& pl.idxOf p == repK rw (pl.idxOf p)) = true := by
    rw [sub_and (repK_sub rw _)]; simp
  have hKlt : repK rw (pl.idxOf p) < 32 := by have := repK_lt rw (pl.idxOf p); omega
  show List.foldl _ _ _ = _
  rw [told_go, parts_F (by omega), parts_dec _ (by omega) _ hKlt hK]
  have e5 : mlist 5 (pl.idxOf p) (repK rw (pl.idxOf p)) = mlist rw.length (pl.idxOf p) (repK rw (pl.idxOf p)) := by
    have := mlist_up (K := repK rw (pl.idxOf p)) f.1 (5 - rw.length)
    rw [← this]
    congr 1
    omega
  rw [e5, Int.zero_add]
  have szg : ∀ c, c < 2 ^ rw.length → (szR rw).getD c 0 = (subR rw c).length := fun c hc => by
    rw [List.getD_eq_getElem?_getD, szR_get rw c hc]; rfl
  have step : ∀ A ∈ mlist rw.length (pl.idxOf p) (repK rw (pl.idxOf p)),
      sg ((szR rw).getD (pl.idxOf p) 0) ((szR rw).getD A 0) * sums.getD (pl.getD A 0) 0 = sg (subR rw (pl.idxOf p)).length (subR rw A).length * S (subR rw A) := by
    intro A hA
    have hA' := mlist_lt _ _ _ _ hA
    rw [szg _ f.1, szg _ hA']
    have hq : pl.getD A 0 < row.length := (List.getElem?_eq_some_iff.mp (at_c A hA')).1
    rw [hS _ hq, ← (uniq _ hq A hA').mp rfl]
  rw [sum_map_congr _ _ _ step, msum]
  show Tz _ (fun v => ((List.range row.length).map fun q' => wz.getD q' 0 * ind ((subR rw (pl.idxOf q')).Sublist v)).sum) = _
  have e6 := sum_ind (fun q' => wz.getD q' 0) p row.length
  rw [if_pos hp] at e6
  rw [Tz_sum, ← e6]
  refine sum_map_congr _ _ _ fun i hi => ?_
  congr 1
  have hi' : i < row.length := by simpa using hi
  refine ind_congr ?_
  have := uniq i hi' _ f.1
  rw [f.2] at this
  exact ⟨fun e => (this.mpr e.symm).symm, fun e => (this.mp e.symm).symm⟩
end Mine
end

section
open PySem PySem.W PyProof.Rows PySem.Calls PySem.Spec
set_option Elab.async false
set_option maxRecDepth 100000
set_option maxHeartbeats 4000000
namespace Mine
local macro_rules | `(tactic| walk_at "sd") => `(tactic| first | kernel_rfl | decide | rfl)
theorem lk91 (w : World) : (KK w).lookup 91 = some { cls := .type "function", data := .func (fd 91) } := by kernel_rfl
theorem cd91 (w : World) : codeIn (KK w) (fd 91).code (fd 91).qualname = true := by kernel_rfl
theorem bo91 : (fd 91).body = .stmts (bod 91) := by kernel_rfl
noncomputable abbrev LE (L : Addr) : Env := callEnvC (fd 91) L 91
def cellL (L : Addr) : List (Str × Addr) := [("worths", L + 7), ("places", L + 6), ("row", L + 5), ("letter", L + 4), ("plain", L + 3), ("names", L + 2), ("script", L + 1)]
theorem LE_cells (L : Addr) : (LE L).cells = cellL L := by kernel_rfl
def WL (L : Addr) : List Addr := [L, L + 1, L + 2, L + 3, L + 4, L + 5, L + 6, L + 7]
structure LS (L : Addr) (h : Heap) (m cm : Str → Option Value) : Prop where
  ns : h.Ns L m
  cell : ∀ p ∈ cellL L, h.IsCell p.2 (cm p.1)
theorem mem_WL {L b : Addr} (h : b ∈ WL L) : b = L ∨ ∃ n, (n, b) ∈ cellL L := by
  simp only [WL, List.mem_cons, List.not_mem_nil, or_false] at h
  rcases h with rfl | h
  · exact .inl rfl
  · right
    simp only [cellL, List.mem_cons, Prod.mk.injEq, List.not_mem_nil, or_false]
    rcases h with rfl | rfl | rfl | rfl | rfl | rfl | rfl
    · exact ⟨"script", by simp⟩
    · exact ⟨"names", by simp⟩
    · exact ⟨"plain", by simp⟩
    · exact ⟨"letter", by simp⟩
    · exact ⟨"row", by simp⟩
    · exact ⟨"places", by simp⟩
    · exact ⟨"worths", by simp⟩
theorem ne_off {L i j : Nat} (h : i ≠ j) : L + i ≠ L + j := by omega
theorem ne_off0 {L i : Nat} (h : i ≠ 0) : L + i ≠ L := by omega
theorem cell_WL {L c : Addr} {n : Str} (h : (n, c) ∈ cellL L) : c ∈ WL L ∧ c ≠ L := by
  simp only [cellL, List.mem_cons, Prod.mk.injEq, List.not_mem_nil, or_false] at h
  rcases h with ⟨_, rfl⟩ | ⟨_, rfl⟩ | ⟨_, rfl⟩ | ⟨_, rfl⟩ | ⟨_, rfl⟩ | ⟨_, rfl⟩ | ⟨_, rfl⟩ <;> exact ⟨by simp [WL], ne_off0 (by decide)⟩
theorem cell_inj {L c d : Addr} {n n' : Str} (h : (n, c) ∈ cellL L) (h' : (n', d) ∈ cellL L) (e : c = d) : n = n' := by
  simp only [cellL, List.mem_cons, Prod.mk.injEq, List.not_mem_nil, or_false] at h h'
  subst e
  rcases h with ⟨rfl, h⟩ | ⟨rfl, h⟩ | ⟨rfl, h⟩ | ⟨rfl, h⟩ | ⟨rfl, h⟩ | ⟨rfl, h⟩ | ⟨rfl, h⟩ <;>
  rcases h' with ⟨rfl, h'⟩ | ⟨rfl, h'⟩ | ⟨rfl, h'⟩ | ⟨rfl, h'⟩ | ⟨rfl, h'⟩ | ⟨rfl, h'⟩ | ⟨rfl, h'⟩ <;> first | rfl | exact absurd (h.symm.trans h') (ne_off (by decide))
theorem lookup_mem {α : Type} : ∀ {l : List (Str × α)} {n : Str} {c : α}, l.lookup n = some c → (n, c) ∈ l
  | [], _, _, h => by cases h
  | (k, v) :: r, n, c, h => by
    rw [List.lookup_cons] at h
    cases e : n == k with
    | true =>
      rw [e] at h
      cases h
      rw [eq_of_beq e]; exact .head _
    | false =>
      rw [e] at h
      exact .tail _ (lookup_mem h)

section
variable {L : Addr} {h h' : Heap} {m cm : Str → Option Value} {s s' : Shared}
theorem LS.at (x : LS L h m cm) {b : Addr} (hb : b ∈ WL L) : ∃ o, h.get? b = some o := by
  rcases mem_WL hb with rfl | ⟨n, q⟩
  · obtain ⟨o, _, _, e, _⟩ := x.ns; exact ⟨o, e⟩
  · obtain ⟨o, e, _⟩ := x.cell _ q; exact ⟨o, e⟩
theorem LS.notW (x : LS L h m cm) {b : Addr} {vs : Array Value} (l : h.IsList b vs) : b ∉ WL L := by
  intro hb
  obtain ⟨o, e, _, _, d⟩ := l
  rcases mem_WL hb with rfl | ⟨n, q⟩
  · obtain ⟨o', _, _, e', d', _⟩ := x.ns
    rw [e] at e'; cases e'; rw [d] at d'; cases d'
  · obtain ⟨o', e', d'⟩ := x.cell _ q
    rw [show (n, b).2 = b from rfl, e] at e'; cases e'; rw [d] at d'; cases d'
theorem LS.keep {W : List Addr} (x : LS L h m cm) (k : KB W h h') (hW : ∀ b ∈ W, b ∉ WL L) : LS L h' m cm :=
  ⟨k.ns x.ns fun q => hW _ q (by simp [WL]), fun p hp => k.cell (x.cell p hp) fun q => hW _ q (cell_WL hp).1⟩
theorem LS.g (x : LS L s.heap m cm) (g : Goes [] s s') : LS L s'.heap m cm := x.keep g.kb (by simp)
theorem LS.kf (x : LS L h m cm) (k : KF h h') : LS L h' m cm := ⟨k.ns x.ns, fun p hp => k.cell (x.cell p hp)⟩
end

def SL (h : Heap) (b : Addr) (ss : List Str) : Prop := ∃ vs : List Value, h.IsList b vs.toArray ∧ StrsAre vs ss
def IL (h : Heap) (b : Addr) (ns : List Int) : Prop := ∃ vs : List Value, h.IsList b vs.toArray ∧ IntsAre vs ns
section
variable {h h' : Heap} {b L : Addr} {ss : List Str} {ns : List Int} {s s' : Shared} {W : List Addr} {m cm : Str → Option Value}
theorem SL.keep (x : SL h b ss) (k : KB W h h') (n : b ∉ W) : SL h' b ss := let ⟨vs, a, c⟩ := x; ⟨vs, k.list a n, c⟩
theorem IL.keep (x : IL h b ns) (k : KB W h h') (n : b ∉ W) : IL h' b ns := let ⟨vs, a, c⟩ := x; ⟨vs, k.list a n, c⟩
theorem SL.g (x : SL s.heap b ss) (g : Goes [] s s') : SL s'.heap b ss := x.keep g.kb (by simp)
theorem IL.g (x : IL s.heap b ns) (g : Goes [] s s') : IL s'.heap b ns := x.keep g.kb (by simp)
theorem SL.kf (x : SL h b ss) (k : KF h h') : SL h' b ss := let ⟨vs, a, c⟩ := x; ⟨vs, k.list a, c⟩
theorem IL.kf (x : IL h b ns) (k : KF h h') : IL h' b ns := let ⟨vs, a, c⟩ := x; ⟨vs, k.list a, c⟩
theorem SL.notW (x : SL h b ss) (l : LS L h m cm) : b ∉ WL L := let ⟨_, a, _⟩ := x; l.notW a
theorem IL.notW (x : IL h b ns) (l : LS L h m cm) : b ∉ WL L := let ⟨_, a, _⟩ := x; l.notW a
theorem SL.w (x : SL s.heap b ss) (l : LS L s.heap m cm) (g : Goes (WL L) s s') : SL s'.heap b ss := x.keep g.kb (x.notW l)
theorem IL.w (x : IL s.heap b ns) (l : LS L s.heap m cm) (g : Goes (WL L) s s') : IL s'.heap b ns := x.keep g.kb (x.notW l)
end

section
variable {M : Model} {A : Around} {E : Value → Shared → Prop} {s : Shared} {L : Addr} {m cm : Str → Option Value} {x : Str} {pos : Pos} {v : Value}
theorem LS.stL {Q : Unit → Shared → Prop} (ls : LS L s.heap m cm) (h : ∀ s', LS L s'.heap (up m x v) cm → Goes (WL L) s s' → Q () s') (hx : (LE L).kindOf x = some .local) : wpAny M A (storeName (LE L) x v) Q E s := by
  refine Mine.stL (env := LE L) ls.ns (fun s' hn g => h s' ⟨hn, fun p hp => ?_⟩ (g.mono (by intro b hb; rw [List.mem_singleton.mp hb]; simp [WL, callEnvC, newEnv]))) (by kernel_rfl) hx
  exact g.kb.cell (ls.cell p hp) (by
    intro q
    exact (cell_WL hp).2 (List.mem_singleton.mp q))
theorem LS.stC {Q : Unit → Shared → Prop} {c : Addr} (ls : LS L s.heap m cm) (hc : (cellL L).lookup x = some c) (h : ∀ s', LS L s'.heap m (up cm x v) → Goes (WL L) s s' → Q () s') (hx : (LE L).kindOf x = some .cell) : wpAny M A (storeName (LE L) x v) Q E s := by
  have hm := lookup_mem hc
  refine Mine.stC (env := LE L) (c := c) (by rw [LE_cells]; exact hc) (ls.cell _ hm) (fun s' hn g => h s' ⟨g.kb.ns ls.ns ?_, fun p hp => ?_⟩ (g.mono ?_)) (by kernel_rfl) hx
  · intro q; exact (cell_WL hm).2 (List.mem_singleton.mp q).symm
  · by_cases e : p.2 = c
    · have e' : p.1 = x := cell_inj hp hm e
      rw [e', up_same, e]; exact hn
    · have e' : p.1 ≠ x := fun q => e (by
        have h1 : (cellL L).lookup p.1 = some c := by rw [q]; exact hc
        have := cell_inj hp hm
        obtain ⟨p1, p2⟩ := p
        subst q
        simp only [cellL, List.mem_cons, Prod.mk.injEq, List.not_mem_nil, or_false] at hp hm
        rcases hp with ⟨rfl, rfl⟩ | ⟨rfl, rfl⟩ | ⟨rfl, rfl⟩ | ⟨rfl, rfl⟩ | ⟨rfl, rfl⟩ | ⟨rfl, rfl⟩ | ⟨rfl, rfl⟩ <;>
          rcases hm with ⟨q, rfl⟩ | ⟨q, rfl⟩ | ⟨q, rfl⟩ | ⟨q, rfl⟩ | ⟨q, rfl⟩ | ⟨q, rfl⟩ | ⟨q, rfl⟩ <;> first | rfl | (exact absurd q (by decide +kernel)))
      rw [up_ne (decide_eq_false e')]
      exact g.kb.cell (ls.cell p hp) (by simpa using e)
  · intro b hb
    rw [List.mem_singleton.mp hb]; exact (cell_WL hm).1
theorem rdL {Q : Value → Shared → Prop} (ls : LS L s.heap m cm) (hv : m x = some v) (h : Q v s) (hx : (LE L).kindOf x = some .local) (hd : (x == ("__debug__" : Str)) = false) : wpAny M A (eval (.Name x pos) (LE L)) Q E s :=
  nmL (env := LE L) ls.ns hv h (by kernel_rfl) hx hd
theorem rdC {Q : Value → Shared → Prop} {c : Addr} (ls : LS L s.heap m cm) (hc : (cellL L).lookup x = some c) (hv : cm x = some v) (h : Q v s) (hx : (LE L).kindOf x = some .cell) (hd : (x == ("__debug__" : Str)) = false) : wpAny M A (eval (.Name x pos) (LE L)) Q E s :=
  nmC (env := LE L) (by rw [LE_cells]; exact hc) (hv ▸ ls.cell _ (lookup_mem hc)) h (by kernel_rfl) hx hd
/-- a cell read inside a comprehension -/
theorem rdF {Q : Value → Shared → Prop} {scope : Scope} {cl : List (Str × Addr)} {C c : Addr} (ls : LS L s.heap m cm) (hc : (cellL L).lookup x = some c) (hcl : cl.lookup x = some c) (hv : cm x = some v) (h : Q v s)
    (hk : (compEnvC scope cl C (LE L)).scope.kind = .function) (hx : (compEnvC scope cl C (LE L)).kindOf x = some .cell) (hd : (x == ("__debug__" : Str)) = false) : wpAny M A (eval (.Name x pos) (compEnvC scope cl C (LE L))) Q E s :=
  nmC (env := compEnvC scope cl C (LE L)) hcl (hv ▸ ls.cell _ (lookup_mem hc)) h hk hx hd
end
end Mine
end

section
open PySem PySem.W PyProof.Rows PySem.Calls PySem.Spec
set_option Elab.async false
set_option maxRecDepth 100000
set_option maxHeartbeats 4000000
namespace Mine
local macro_rules | `(tactic| walk_at "sd") => `(tactic| first | kernel_rfl | decide | rfl)
def Same (xs : List Str) (m m' : Str → Option Value) : Prop := ∀ y, xs.contains y = false → m' y = m y
theorem Same.refl (xs : List Str) (m : Str → Option Value) : Same xs m m := fun _ _ => rfl
theorem Same.up {xs : List Str} {m m' : Str → Option Value} {x : Str} {v : Value} (h : Same xs m m') (hx : xs.contains x = true) : Same xs m (up m' x v) := fun y hy => by
  rw [up_ne (decide_eq_false fun e => by rw [e, hx] at hy; cases hy)]
  exact h y hy
theorem Same.get {xs : List Str} {m m' : Str → Option Value} {y : Str} {r : Option Value} (h : Same xs m m') (hy : xs.contains y = false) (e : m y = r) : m' y = r := (h y hy).trans e
/-- what is plain of the row and the places -/
structure Rw (rw row : List Str) (pl : List Nat) : Prop where
  hL : ∀ l ∈ rw, l ∈ letters
  h5 : rw.length ≤ 5
  hr : row.Pairwise slt
  hm : ∀ x, x ∈ row ↔ x ∈ plR rw
  hrl : row.length ≤ 32
  hpl : pl.length = 2 ^ rw.length
  hpg : ∀ c x, (plR rw)[c]? = some x → row[pl.getD c 0]? = some x
theorem Rw.n32 {rw row : List Str} {pl : List Nat} (r : Rw rw row pl) : 2 ^ rw.length ≤ 32 := Nat.pow_le_pow_right (n := 2) (by decide) r.h5
theorem Rw.lt {rw row : List Str} {pl : List Nat} (r : Rw rw row pl) {c : Nat} (hc : c < 2 ^ rw.length) : pl.getD c 0 < row.length :=
  (List.getElem?_eq_some_iff.mp (r.hpg c _ (plR_get rw c hc))).1
theorem Rw.first {rw row : List Str} {pl : List Nat} (r : Rw rw row pl) {q : Nat} (hq : q < row.length) : q ∈ pl ∧ pl.idxOf q < 2 ^ rw.length := by
  have hx : row[q] ∈ plR rw := (r.hm _).mp (List.getElem_mem hq)
  obtain ⟨c, hc, e⟩ := plR_mem r.hL hx
  have e1 := r.hpg c _ (plR_get rw c hc)
  have e2 : row[q]? = some (nmR (subR rw c)) := by rw [List.getElem?_eq_getElem hq, e]
  have e3 : pl.getD c 0 = q := by
    rcases Nat.lt_trichotomy (pl.getD c 0) q with k | k | k
    · exact absurd (rise_get r.hr k e1 e2) (slt_irrefl _)
    · exact k
    · exact absurd (rise_get r.hr k e2 e1) (slt_irrefl _)
  have hmem : q ∈ pl := by
    rw [← e3, List.getD_eq_getElem?_getD, List.getElem?_eq_getElem (by rw [r.hpl]; exact hc)]
    exact List.getElem_mem _
  have := List.idxOf_lt_length_of_mem hmem
  exact ⟨hmem, by rw [← r.hpl]; exact this⟩
theorem Rw.part {rw row : List Str} {pl : List Nat} (r : Rw rw row pl) {q : Nat} (hq : q < row.length) {A : Nat} (hA : A ∈ partsOf (pl.idxOf q)) : A < 2 ^ rw.length ∧ pl.getD A 0 < row.length := by
  have h := (r.first hq).2
  have h32 := r.n32
  rw [parts_F (by omega)] at hA
  have := parts_mem1 _ (by omega) A hA
  have h2 : A &&& pl.idxOf q ≤ pl.idxOf q := Nat.and_le_right
  have h3 : A < 2 ^ rw.length := by omega
  exact ⟨h3, r.lt h3⟩
theorem told_succ {sz pl : List Nat} {sums : List Int} {W K : Nat} {parts : List Nat} {j A : Nat} (h : parts[j]? = some A) :
    toldF sz pl sums W K (parts.take (j + 1)) = toldStep sz pl sums W K (toldF sz pl sums W K (parts.take j)) A := by
  unfold toldF
  rw [List.take_add_one, h, List.foldl_append]
  rfl
theorem nat_at {vs : List Value} {ns : List Nat} (h : IntsAre vs (natI ns)) {i : Nat} {v : Value} (e : vs[i]? = some v) : ∃ y t, v = .int ((y : Nat) : Int) t ∧ ns[i]? = some y := by
  obtain ⟨y, t, rfl, q⟩ := ints_at h e
  simp only [natI, List.getElem?_map, Option.map_eq_some_iff] at q
  obtain ⟨n, q, rfl⟩ := q
  exact ⟨n, t, rfl, q⟩
theorem natI_get {ns : List Nat} {k : Nat} (h : k < ns.length) : (natI ns)[k]? = some ((ns.getD k 0 : Nat) : Int) := by
  simp [natI, List.getD, h]
theorem zed_get {ns : List Int} {k : Nat} (h : k < ns.length) : ns[k]? = some (ns.getD k 0) := by
  simp [List.getD, h]

section
variable {prog : Program} {w : World} {A : Around} {E : Value → Shared → Prop} {s s₀ : Shared} {L : Addr} {m cm : Str → Option Value}
theorem itemN {value slice : Expr} {l : Addr} {ns : List Nat} {k : Nat} {u : Tok} {Q : Value → Shared → Prop} (hl : IL s.heap l (natI ns)) (hk : k < ns.length) (hn : ns.length < 2 ^ 60) (h : ∀ t, Q (.int ((ns.getD k 0 : Nat) : Int) t) s)
    (hs : subscripted slice false (.ref l) (.int (k : Int) u) = operate [.ref l, .int (k : Int) u] (getItem (.ref l) (.int (k : Int) u))) :
    wpAny (model prog w) A (subscriptTail value slice (.ref l) (.int (k : Int) u)) Q E s := by
  obtain ⟨vs, a, b⟩ := hl
  obtain ⟨t, e⟩ := IntsAre.to b (natI_get hk)
  exact item_listR a (by omega) (by omega) (by simpa using e) (h t) hs
theorem itemZ {value slice : Expr} {l : Addr} {ns : List Int} {k : Nat} {u : Tok} {Q : Value → Shared → Prop} (hl : IL s.heap l ns) (hk : k < ns.length) (hn : ns.length < 2 ^ 60) (h : ∀ t, Q (.int (ns.getD k 0) t) s)
    (hs : subscripted slice false (.ref l) (.int (k : Int) u) = operate [.ref l, .int (k : Int) u] (getItem (.ref l) (.int (k : Int) u))) :
    wpAny (model prog w) A (subscriptTail value slice (.ref l) (.int (k : Int) u)) Q E s := by
  obtain ⟨vs, a, b⟩ := hl
  obtain ⟨t, e⟩ := IntsAre.to b (zed_get hk)
  exact item_listR a (by omega) (by omega) (by simpa using e) (h t) hs

/-- range(len(x)), x a cell -/
theorem rangeLen {x : Str} {p1 p2 p3 p4 p5 : Pos} {R c : Addr} {vs : Array Value} {n : Nat} {Q : Value → Shared → Prop} (sc : SC w s.heap) (ls : LS L s.heap m cm) (hc : (cellL L).lookup x = some c) (hv : cm x = some (.ref R)) (hl : s.heap.IsList R vs) (hn : vs.size = n) (h60 : n < 2 ^ 60)
    (hx : (LE L).kindOf x = some .cell) (hd : (x == ("__debug__" : Str)) = false)
    (h : ∀ s' r, Goes [] s s' → (∃ t u z, IsRange s'.heap r 0 n 1 t u z) → Q (.ref r) s') :
    wpAny (model prog w) A (eval (.Call (.Name "range" p1) [.Call (.Name "len" p2) [.Name x p3] [] p4] [] p5) (LE L)) Q E s := by
  refine Call_ ?_ (by kernel_rfl)
  refine nmB (v := .type "range") sc (by simp [gl]) (by simp [bl]) ?_ ?_ ?_ ?_ ?_ ?_
  refine PyProof.Rows.callWith_type1 (wpAny_items_cons (Call_ ?_ (by kernel_rfl)) (by kernel_rfl)) (by kernel_rfl) (by kernel_rfl)
  refine nmB (v := .builtin "len") sc (by simp [gl]) (by simp [bl]) ?_ ?_ ?_ ?_ ?_ ?_
  refine PyProof.Rows.callWith_builtin1 (wpAny_items_cons ?_ (by kernel_rfl)) (by kernel_rfl) (by kernel_rfl)
  refine rdC ls hc hv ?_ hx hd
  refine wpAny_items_nil ?_
  refine call_len_list hl (by omega) ?_
  refine wpAny_items_nil ?_
  refine call_range_1 ?_
  rw [hn]
  exact h _ _ (Goes.of (KB.push _)) ⟨_, _, _, Heap.get?_push_size _ rfl⟩
  all_goals walk_at "sd"
end
end Mine
end

section
open PySem PySem.W PyProof.Rows PySem.Calls PySem.Spec
set_option Elab.async false
set_option maxRecDepth 100000
set_option maxHeartbeats 4000000
namespace Mine
local macro_rules | `(tactic| walk_at "sd") => `(tactic| first | kernel_rfl | decide | rfl)
section
variable {prog : Program} {w : World} {A : Around} {E : Value → Shared → Prop} {s s₀ : Shared} {L : Addr} {m cm : Str → Option Value}
def x14 : List Str := ["p", "whole", "kept", "told", "part"]
theorem seg14 {Q : Flow → Shared → Prop} {Wd Z PL WO CH SU R : Addr} {rw row : List Str} {pl : List Nat} {wz sums : List Int} {cv : List Value} (sc : SC w s₀.heap) (ok : AOk A 20) (hW : ∀ b ∈ WL L, s₀.heap.get? b = none)
    (g : Goes [] s₀ s) (ls : LS L s.heap m cm) (r : Rw rw row pl)
    (hsums : ∀ q, q < row.length → sums.getD q 0 = sumF pl wz (partsOf (pl.idxOf q)))
    (nCH : m "choices" = some (.ref CH)) (lCH : s.heap.IsList CH cv.toArray) (dCH : ∀ q, q < row.length → ∃ D, cv[q]? = some (.ref D) ∧ IL s.heap D (natI (partsOf (pl.idxOf q))))
    (nW : m "word" = some (.ref Wd)) (lW : SL s.heap Wd rw.reverse) (nZ : m "sizes" = some (.ref Z)) (lZ : IL s.heap Z (natI (szR rw))) (nS : m "sums" = some (.ref SU)) (lS : IL s.heap SU sums) (hsl : sums.length = row.length)
    (nR : cm "row" = some (.ref R)) (lR : SL s.heap R row) (nP : cm "places" = some (.ref PL)) (lP : IL s.heap PL (natI pl)) (nO : cm "worths" = some (.ref WO)) (lO : IL s.heap WO wz) (hwl : wz.length = row.length)
    (h : ∀ s', Goes [] s₀ s' → Q (.ret (.bool true)) s') :
    wpAny (model prog w) A (execs ((bod 91).drop 14) (LE L)) Q E s := by
  have h32 := r.n32
  have hrl := r.hrl
  obtain ⟨rvs, hR, hRs⟩ := lR
  have hRl := StrsAre.length hRs
  refine wpAny_execs_cons (forRange (n := row.length) (WL L) (fun _ h => ∃ m', LS L h m' cm ∧ Same x14 m m') ok.hh (by omega) ?_ (fun b hb => ls.at hb) ⟨m, ls, Same.refl _ _⟩ (fun i h h' ⟨m', a, b⟩ kf => ⟨m', a.kf kf, b⟩) ?_ ?_)
  · exact rangeLen (c := L + 5) (g.sc sc) ls (by kernel_rfl) nR hR (by rw [List.size_toArray, hRl]) (by omega) (by kernel_rfl) (by decide) fun s' r g' hr' => ⟨r, rfl, g', hr'⟩
  · rintro i t s₁ E' hi ⟨m₁, ls₁, sm₁⟩ g₁
    have G₁ : Goes [] s₀ s₁ := g.locs hW g₁
    have hf := r.first hi
    have hK20 : repK rw (pl.idxOf i) < 2 ^ rw.length := repK_lt rw _
    refine LS.stL ls₁ (fun s₂ ls₂ g₂ => ?_) ?_
    have sm₂ : Same x14 m (up m₁ "p" (.int (i : Int) t)) := sm₁.up (by decide +kernel)
    have np₂ : up m₁ "p" (.int (i : Int) t) "p" = some (.int (i : Int) t) := up_same
    generalize up m₁ "p" (.int (i : Int) t) = m₂ at ls₂ sm₂ np₂
    have q₂ : Goes (WL L) s s₂ := g₁.trans g₂
    obtain ⟨D, hcD, lD⟩ := dCH i hi
    have lD₂ := lD.w ls q₂
    have lCH₂ := q₂.kb.list lCH (ls.notW lCH)
    have hplen : (partsOf (pl.idxOf i)).length ≤ 32 := by
      have := partsGo_length (pl.idxOf i) (pl.idxOf i)
      simp only [partsOf, List.length_cons]; omega
    -- whole
    refine wpAny_execs_cons (wpAny_Assign_Name (Subscript_ (Subscript_ ?_)) (by kernel_rfl))
    refine rdL ls₂ (sm₂.get (by decide +kernel) nCH) ?_ ?_ ?_
    refine rdL ls₂ np₂ ?_ ?_ ?_
    refine item_listR lCH₂ (by omega) (by omega) (x := .ref D) (by simpa using hcD) ?_ (by with_unfolding_all rfl)
    refine wpAny_Constant_int (itemN (k := 0) lD₂ (by simp [partsOf]) (by omega) (fun tw => ?_) (by with_unfolding_all rfl))
    have e0 : (partsOf (pl.idxOf i)).getD 0 0 = pl.idxOf i := rfl
    rw [e0]
    refine LS.stL ls₂ (fun s₃ ls₃ g₃ => ?_) ?_
    replace g₃ : Goes (WL L) s₂ s₃ := Goes.trans (Goes.of (KB.refl _ _)) g₃
    have q₃ := q₂.trans g₃
    have sm₃ : Same x14 m (up m₂ "whole" (.int ((pl.idxOf i : Nat) : Int) tw)) := sm₂.up (by decide +kernel)
    have np₃ : up m₂ "whole" (.int ((pl.idxOf i : Nat) : Int) tw) "p" = some (.int (i : Int) t) := up_else (by decide +kernel) np₂
    have nw₃ : up m₂ "whole" (.int ((pl.idxOf i : Nat) : Int) tw) "whole" = some (.int ((pl.idxOf i : Nat) : Int) tw) := up_same
    generalize up m₂ "whole" (.int ((pl.idxOf i : Nat) : Int) tw) = m₃ at ls₃ sm₃ np₃ nw₃
    have G₃ : Goes [] s₀ s₃ := g.locs hW q₃
    -- kept
    refine wpAny_execs_cons (wpAny_Assign_Name (Call_ ?_ (by kernel_rfl)) (by kernel_rfl))
    refine nmG (G₃.sc sc) (v := .ref 79) (by simp [gl]) ?_ ?_ ?_ ?_ ?_
    refine callWith_def (o := { cls := .type "function", data := .func (fd 79) }) rfl (wpAny_items_cons ?_ (by kernel_rfl)) (by kernel_rfl)
    refine rdL ls₃ (sm₃.get (by decide +kernel) nW) ?_ ?_ ?_
    refine wpAny_items_cons ?_ (by kernel_rfl)
    refine rdL ls₃ nw₃ ?_ ?_ ?_
    refine wpAny_items_nil ⟨(G₃.sc sc).K _ _ lk79, ?_⟩
    obtain ⟨wv, hWv, hWs⟩ := lW.w ls q₃
    refine rep_ctr (G₃.sc sc) (ok.mono (by decide)) (by omega) hWv hWs (by have := r.h5; simp; omega) fun s₄ t₄ g₄ => ?_
    rw [List.reverse_reverse]
    have ls₄ := ls₃.g g₄
    have q₄ := q₃.trans g₄.any
    refine LS.stL ls₄ (fun s₅ ls₅ g₅ => ?_) ?_
    have q₅ := q₄.trans g₅
    have sm₅ : Same x14 m (up m₃ "kept" (.int ((repK rw (pl.idxOf i) : Nat) : Int) t₄)) := sm₃.up (by decide +kernel)
    have np₅ : up m₃ "kept" (.int ((repK rw (pl.idxOf i) : Nat) : Int) t₄) "p" = some (.int (i : Int) t) := up_else (by decide +kernel) np₃
    have nw₅ : up m₃ "kept" (.int ((repK rw (pl.idxOf i) : Nat) : Int) t₄) "whole" = some (.int ((pl.idxOf i : Nat) : Int) tw) := up_else (by decide +kernel) nw₃
    have nk₅ : up m₃ "kept" (.int ((repK rw (pl.idxOf i) : Nat) : Int) t₄) "kept" = some (.int ((repK rw (pl.idxOf i) : Nat) : Int) t₄) := up_same
    generalize up m₃ "kept" (.int ((repK rw (pl.idxOf i) : Nat) : Int) t₄) = m₅ at ls₅ sm₅ np₅ nw₅ nk₅
    -- told
    refine wpAny_execs_cons (wpAny_Assign_Name (wpAny_Constant_int (LS.stL ls₅ (fun s₆ ls₆ g₆ => ?_) ?_)) (by kernel_rfl))
    replace g₆ : Goes (WL L) s₅ s₆ := Goes.trans (Goes.of (KB.refl _ _)) g₆
    have q₆ := q₅.trans g₆
    have G₆ : Goes [] s₀ s₆ := g.locs hW q₆
    obtain ⟨pv, hpv, hpi⟩ := lD.w ls q₆
    have lD₆ : IL s₆.heap D (natI (partsOf (pl.idxOf i))) := lD.w ls q₆
    refine wpAny_execs_cons (forList (l := D) (items := pv.toArray) (WL L) (fun j h => ∃ m' tt, LS L h m' cm ∧ Same ["told", "part"] m₅ m' ∧ m' "told" = some (.int (toldF (szR rw) pl sums (pl.idxOf i) (repK rw (pl.idxOf i)) ((partsOf (pl.idxOf i)).take j)) tt))
      ok.hh ?_ hpv (lD₆.notW ls₆) (fun b hb => ls₆.at hb) ⟨_, _, ls₆, (Same.refl _ _).up (by decide +kernel), up_same⟩ (fun j h h' ⟨m', tt, a, b⟩ kf => ⟨m', tt, a.kf kf, b⟩) ?_ ?_)
    · refine Subscript_ ?_
      refine rdL ls₆ (up_else (by decide +kernel) (sm₅.get (by decide +kernel) nCH)) ?_ ?_ ?_
      refine rdL ls₆ (up_else (by decide +kernel) np₅) ?_ ?_ ?_
      refine item_listR (q₆.kb.list lCH (ls.notW lCH)) (by omega) (by omega) (x := .ref D) (by simpa using hcD) ⟨rfl, Goes.refl _ _⟩ (by with_unfolding_all rfl)
      all_goals walk_at "sd"
    · rintro j v s₇ E'' hv ⟨m₇, tt, ls₇, sm₇, nt₇⟩ g₇
      obtain ⟨B, tB, rfl, hB⟩ := nat_at hpi (by simpa using hv)
      obtain ⟨hBl, hBr⟩ := r.part hi (List.mem_of_getElem? hB)
      have hstep := told_succ (sz := szR rw) (pl := pl) (sums := sums) (W := pl.idxOf i) (K := repK rw (pl.idxOf i)) hB
      refine LS.stL ls₇ (fun s₈ ls₈ g₈ => ?_) ?_
      have sm₈ : Same ["told", "part"] m₅ (up m₇ "part" (.int ((B : Nat) : Int) tB)) := sm₇.up (by decide +kernel)
      have nt₈ := up_else (x := "part") (v := .int ((B : Nat) : Int) tB) (by decide +kernel) nt₇
      have nb₈ : up m₇ "part" (.int ((B : Nat) : Int) tB) "part" = some (.int ((B : Nat) : Int) tB) := up_same
      generalize up m₇ "part" (.int ((B : Nat) : Int) tB) = m₈ at ls₈ sm₈ nt₈ nb₈
      have q₈ := (q₆.trans g₇).trans g₈
      have G₈ : Goes [] s₀ s₈ := g.locs hW q₈
      refine wpAny_execs_cons (wpAny_If (wpAny_isTrue_Compare1 (Call_ ?_ (by kernel_rfl)) (by kernel_rfl)))
      refine nmG (G₈.sc sc) (v := .ref 53) (by simp [gl]) ?_ ?_ ?_ ?_ ?_
      refine callWith_def (o := { cls := .type "function", data := .func (fd 53) }) rfl (wpAny_items_cons ?_ (by kernel_rfl)) (by kernel_rfl)
      refine rdL ls₈ nb₈ ?_ ?_ ?_
      refine wpAny_items_cons ?_ (by kernel_rfl)
      refine rdL ls₈ (sm₈.get (by decide +kernel) nk₅) ?_ ?_ ?_
      refine wpAny_items_nil ⟨(G₈.sc sc).K _ _ lk53, ?_⟩
      refine and_ctr (G₈.sc sc) (ok.mono (by decide)) fun s₉ t₉ g₉ => ?_
      have ls₉ := ls₈.g g₉
      have q₉ := q₈.trans g₉.any
      have lZ₉ := lZ.w ls q₉
      have lP₉ := lP.w ls q₉
      have lS₉ := lS.w ls q₉
      have r₉ : Goes (WL L) s₇ s₉ := g₈.trans g₉.any
      have G₉ : Goes [] s₀ s₉ := g.locs hW q₉
      have sc₉ := G₉.sc sc
      have e9 : Builtin.bitAnd ((B : Nat) : Int) ((repK rw (pl.idxOf i) : Nat) : Int) = ((B &&& repK rw (pl.idxOf i) : Nat) : Int) := by
        rw [bitAnd_pp (by omega) (by omega)]
        rfl
      rw [e9]
      refine rdL ls₉ (sm₈.get (by decide +kernel) nk₅) ?_ ?_ ?_
      refine PyProof.Rows.eq_int (wpAny_truthy_bool ?_)
      by_cases hBK : B &&& repK rw (pl.idxOf i) = repK rw (pl.idxOf i)
      · rw [hBK, beq_self_eq_true]
        show wpAny _ _ (execs _ _) _ _ _
        have szB : B < (szR rw).length := by rw [szR_length]; exact hBl
        have szW : pl.idxOf i < (szR rw).length := by rw [szR_length]; exact hf.2
        have szl : (szR rw).length < 2 ^ 60 := by rw [szR_length]; omega
        refine wpAny_execs_cons (wpAny_If (wpAny_isTrue_Compare1 (wpAny_BinOp (wpAny_BinOp (Subscript_ ?_))) (by kernel_rfl)))
        refine rdL ls₉ (sm₈.get (by decide +kernel) (sm₅.get (by decide +kernel) nZ)) ?_ ?_ ?_
        refine rdL ls₉ (sm₈.get (by decide +kernel) nw₅) ?_ ?_ ?_
        refine itemN lZ₉ szW szl (fun ta => ?_) (by with_unfolding_all rfl)
        refine Subscript_ ?_
        refine rdL ls₉ (sm₈.get (by decide +kernel) (sm₅.get (by decide +kernel) nZ)) ?_ ?_ ?_
        refine rdL ls₉ nb₈ ?_ ?_ ?_
        refine itemN lZ₉ szB szl (fun tb => ?_) (by with_unfolding_all rfl)
        refine sub_int (wpAny_Constant_int (mod_int' (by decide) (wpAny_Constant_int (PyProof.Rows.eq_int (wpAny_truthy_bool ?_)))))
        have tkn : ∀ {x : Nat}, Goes (WL L) s₉ ({ s₉ with toks := x } : Shared) := Goes.of (KB.refl _ _)
        by_cases hp : Int.fmod (((szR rw).getD (pl.idxOf i) 0 : Nat) - ((szR rw).getD B 0 : Nat) : Int) 2 = 0
        · rw [hp, beq_self_eq_true]
          show wpAny _ _ (execs _ _) _ _ _
          refine wpAny_execs_cons (wpAny_Assign_Name (Call_ ?_ (by kernel_rfl)) (by kernel_rfl))
          refine nmG sc₉ (v := .ref 60) (by simp [gl]) ?_ ?_ ?_ ?_ ?_
          refine callWith_def (o := { cls := .type "function", data := .func (fd 60) }) rfl (wpAny_items_cons ?_ (by kernel_rfl)) (by kernel_rfl)
          refine rdL ls₉ nt₈ ?_ ?_ ?_
          refine wpAny_items_cons (Subscript_ ?_) (by kernel_rfl)
          refine rdL ls₉ (sm₈.get (by decide +kernel) (sm₅.get (by decide +kernel) nS)) ?_ ?_ ?_
          refine Subscript_ ?_
          refine rdC (c := L + 6) ls₉ (by kernel_rfl) nP ?_ ?_ ?_
          refine rdL ls₉ nb₈ ?_ ?_ ?_
          refine itemN lP₉ (by rw [r.hpl]; exact hBl) (by rw [r.hpl]; omega) (fun tc => ?_) (by with_unfolding_all rfl)
          refine itemZ lS₉ (by rw [hsl]; exact hBr) (by omega) (fun te => ?_) (by with_unfolding_all rfl)
          refine wpAny_items_nil ⟨sc₉.K _ _ lk60, ?_⟩
          refine iadd_ctr sc₉ (ok.mono (by decide)) fun s₁₀ t₁₀ g₁₀ => ?_
          replace g₁₀ : Goes [] s₉ s₁₀ := Goes.trans (Goes.of (KB.refl _ _)) g₁₀
          refine LS.stL (ls₉.g g₁₀) (fun s₁₁ ls₁₁ g₁₁ => ?_) ?_
          refine wpAny_execs_nil (wpAny_execs_nil (wpAny_execs_nil ⟨(r₉.trans g₁₀.any).trans g₁₁, _, t₁₀, ls₁₁, sm₈.up (by decide +kernel), ?_⟩))
          rw [hstep]
          unfold toldStep
          rw [if_pos hBK, if_pos hp]
          exact up_same
          all_goals walk_at "sd"
        · rw [beq_false_of_ne hp]
          show wpAny _ _ (execs _ _) _ _ _
          refine wpAny_execs_cons (wpAny_Assign_Name (Call_ ?_ (by kernel_rfl)) (by kernel_rfl))
          refine nmG sc₉ (v := .ref 67) (by simp [gl]) ?_ ?_ ?_ ?_ ?_
          refine callWith_def (o := { cls := .type "function", data := .func (fd 67) }) rfl (wpAny_items_cons ?_ (by kernel_rfl)) (by kernel_rfl)
          refine rdL ls₉ nt₈ ?_ ?_ ?_
          refine wpAny_items_cons (Subscript_ ?_) (by kernel_rfl)
          refine rdL ls₉ (sm₈.get (by decide +kernel) (sm₅.get (by decide +kernel) nS)) ?_ ?_ ?_
          refine Subscript_ ?_
          refine rdC (c := L + 6) ls₉ (by kernel_rfl) nP ?_ ?_ ?_
          refine rdL ls₉ nb₈ ?_ ?_ ?_
          refine itemN lP₉ (by rw [r.hpl]; exact hBl) (by rw [r.hpl]; omega) (fun tc => ?_) (by with_unfolding_all rfl)
          refine itemZ lS₉ (by rw [hsl]; exact hBr) (by omega) (fun te => ?_) (by with_unfolding_all rfl)
          refine wpAny_items_nil ⟨sc₉.K _ _ lk67, ?_⟩
          refine isub_ctr sc₉ (ok.mono (by decide)) fun s₁₀ t₁₀ g₁₀ => ?_
          replace g₁₀ : Goes [] s₉ s₁₀ := Goes.trans (Goes.of (KB.refl _ _)) g₁₀
          refine LS.stL (ls₉.g g₁₀) (fun s₁₁ ls₁₁ g₁₁ => ?_) ?_
          refine wpAny_execs_nil (wpAny_execs_nil (wpAny_execs_nil ⟨(r₉.trans g₁₀.any).trans g₁₁, _, t₁₀, ls₁₁, sm₈.up (by decide +kernel), ?_⟩))
          rw [hstep]
          unfold toldStep
          rw [if_pos hBK, if_neg hp]
          exact up_same
          all_goals walk_at "sd"
        all_goals walk_at "sd"
      · rw [beq_false_of_ne (fun q => hBK (by exact_mod_cast q))]
        show wpAny _ _ (execs _ _) _ _ _
        refine wpAny_execs_nil (wpAny_execs_nil ⟨r₉, _, tt, ls₉, sm₈, ?_⟩)
        rw [hstep]
        unfold toldStep
        rw [if_neg hBK]
        exact nt₈
      all_goals walk_at "sd"
    · rintro s₇ ⟨m₇, tt, ls₇, sm₇, nt₇⟩ g₇
      have q₇ := q₆.trans g₇
      have hpl' : pv.toArray.size = (partsOf (pl.idxOf i)).length := by
        have := hpi.length
        simp [natI] at this
        simp [this]
      rw [hpl', List.take_length, law_plain r.hL r.h5 r.hr r.hm r.hpl r.hpg hsums hi] at nt₇
      refine wpAny_execs_cons (wpAny_If (wpAny_isTrue_Compare1 ?_ (by kernel_rfl)))
      refine rdL ls₇ nt₇ ?_ ?_ ?_
      refine Subscript_ ?_
      refine rdC (c := L + 7) ls₇ (by kernel_rfl) nO ?_ ?_ ?_
      refine rdL ls₇ (sm₇.get (by decide +kernel) np₅) ?_ ?_ ?_
      refine itemZ (lO.w ls q₇) (by omega) (by omega) (fun tz => ?_) (by with_unfolding_all rfl)
      refine PyProof.Rows.ne_int (wpAny_truthy_bool ?_)
      rw [bne_self_eq_false]
      show wpAny _ _ (execs _ _) _ _ _
      refine wpAny_execs_nil (wpAny_execs_nil ⟨?_, m₇, ls₇, ?_⟩)
      · exact (((((g₂.trans g₃).trans g₄.any).trans g₅).trans g₆).trans g₇)
      · intro y hy
        have hy' : (["told", "part"] : List Str).contains y = false := by
          simp [x14] at hy ⊢
          exact ⟨hy.2.2.2.1, hy.2.2.2.2⟩
        rw [sm₇ y hy', sm₅ y hy]
      all_goals walk_at "sd"
    all_goals walk_at "sd"
  · rintro s₁ ⟨m₁, ls₁, sm₁⟩ g₁
    refine wpAny_execs_cons (wpAny_Return_some (wpAny_Constant_bool ?_))
    exact h _ (g.locs hW g₁)
end
end Mine
end

section
open PySem PySem.W PyProof.Rows PySem.Calls PySem.Spec
set_option Elab.async false
set_option maxRecDepth 100000
set_option maxHeartbeats 4000000
namespace Mine
local macro_rules | `(tactic| walk_at "sd") => `(tactic| first | kernel_rfl | decide | rfl)
theorem IL.ne {h : Heap} {b D : Addr} {ns : List Int} (x : IL h b ns) (f : h.get? D = none) : b ≠ D := fun e => by
  obtain ⟨_, ⟨o, q, _⟩, _⟩ := x
  rw [e, f] at q; cases q
theorem SL.ne {h : Heap} {b D : Addr} {ns : List Str} (x : SL h b ns) (f : h.get? D = none) : b ≠ D := fun e => by
  obtain ⟨_, ⟨o, q, _⟩, _⟩ := x
  rw [e, f] at q; cases q
theorem list_ne {h : Heap} {b D : Addr} {vs : Array Value} (x : h.IsList b vs) (f : h.get? D = none) : b ≠ D := fun e => by
  obtain ⟨o, q, _⟩ := x
  rw [e, f] at q; cases q
theorem Goes.into {V W : List Addr} {s s' s'' : Shared} (hV : ∀ b ∈ V, b ∈ W ∨ s.heap.get? b = none) (x : Goes W s s') (y : Goes V s' s'') : Goes W s s'' := by
  obtain ⟨h, t, rfl, a⟩ := x
  obtain ⟨h', t', rfl, b⟩ := y
  refine ⟨h', t', rfl, fun c o n e => b c o (fun q => ?_) (a c o n e)⟩
  rcases hV c q with k | k
  · exact n k
  · rw [k] at e; cases e
theorem Goes.fresh {W : List Addr} {s s' : Shared} {D : Addr} (x : Goes W s s') (hW : ∀ b ∈ W, ∃ o, s.heap.get? b = some o) (hD : s'.heap.get? D = none) (hn : D ∉ W) : s.heap.get? D = none := by
  cases e : s.heap.get? D with
  | none => rfl
  | some o => rw [x.kb D o hn e] at hD; cases hD
theorem any_nat (q : Nat) : ∀ ns : List Nat, (natI ns).any (fun x => x == (q : Int)) = decide (q ∈ ns)
  | [] => rfl
  | n :: r => by
    have ih := any_nat q r
    simp only [natI, List.map_cons, List.any_cons] at ih ⊢
    rw [ih]
    by_cases h : n = q
    · subst h; simp
    · have h1 : ((n : Int) == (q : Int)) = false := beq_false_of_ne (by omega)
      have h2 : ¬ q = n := fun e => h e.symm
      rw [h1]; simp [h2]
theorem withinF_succ {pl parts : List Nat} {j B : Nat} (h : parts[j]? = some B) :
    withinF pl (parts.take (j + 1)) = if pl.getD B 0 ∈ withinF pl (parts.take j) then withinF pl (parts.take j) else withinF pl (parts.take j) ++ [pl.getD B 0] := by
  unfold withinF
  rw [List.take_add_one, h, List.foldl_append]
  rfl
theorem withinF_len (pl : List Nat) (parts : List Nat) : (withinF pl parts).length ≤ parts.length := by
  have : ∀ (ps acc : List Nat), (ps.foldl (fun acc A => if pl.getD A 0 ∈ acc then acc else acc ++ [pl.getD A 0]) acc).length ≤ acc.length + ps.length := by
    intro ps
    induction ps with
    | nil => intro acc; simp
    | cons a r ih =>
      intro acc
      rw [List.foldl_cons]
      refine Nat.le_trans (ih _) ?_
      split
      · simp
      · simp; omega
  have := this parts []
  simpa [withinF] using this
theorem range_map_get {f : Nat → Int} {n q : Nat} (h : q < n) : ((List.range n).map f).getD q 0 = f q := by
  simp [List.getD, h]

section
variable {prog : Program} {w : World} {A : Around} {E : Value → Shared → Prop} {s s₀ : Shared} {L : Addr} {m cm : Str → Option Value}
theorem seg12 {Q : Flow → Shared → Prop} {Wd Z PL WO CH R : Addr} {rw row : List Str} {pl : List Nat} {wz : List Int} {cv : List Value} (sc : SC w s₀.heap) (ok : AOk A 20) (hW : ∀ b ∈ WL L, s₀.heap.get? b = none)
    (g : Goes [] s₀ s) (ls : LS L s.heap m cm) (r : Rw rw row pl)
    (nCH : m "choices" = some (.ref CH)) (lCH : s.heap.IsList CH cv.toArray) (hcv : cv.length = row.length) (dCH : ∀ q, q < row.length → ∃ D, cv[q]? = some (.ref D) ∧ IL s.heap D (natI (partsOf (pl.idxOf q))))
    (nW : m "word" = some (.ref Wd)) (lW : SL s.heap Wd rw.reverse) (nZ : m "sizes" = some (.ref Z)) (lZ : IL s.heap Z (natI (szR rw)))
    (nR : cm "row" = some (.ref R)) (lR : SL s.heap R row) (nP : cm "places" = some (.ref PL)) (lP : IL s.heap PL (natI pl)) (nO : cm "worths" = some (.ref WO)) (lO : IL s.heap WO wz) (hwl : wz.length = row.length)
    (h : ∀ s', Goes [] s₀ s' → Q (.ret (.bool true)) s') :
    wpAny (model prog w) A (execs ((bod 91).drop 12) (LE L)) Q E s := by
  have h32 := r.n32
  have hrl := r.hrl
  have hsl := sizeLine_eq
  -- sums = []
  refine wpAny_execs_cons (wpAny_Assign_Name (List_ (wpAny_items_nil (newListP (vs := []) (fun s₁ SU hSU lSU g₁ => ?_) (by simp)))) (by kernel_rfl))
  have nCS := list_ne lCH hSU
  have nDS : ∀ q, q < row.length → ∃ D, cv[q]? = some (.ref D) ∧ IL s.heap D (natI (partsOf (pl.idxOf q))) ∧ D ≠ SU := fun q hq => by
    obtain ⟨D, a, b⟩ := dCH q hq
    exact ⟨D, a, b, b.ne hSU⟩
  refine LS.stL (ls.g g₁) (fun s₂ ls₂ g₂ => ?_) (by kernel_rfl)
  have q₂ : Goes (WL L) s s₂ := g₁.any.trans g₂
  have lSU₂ : s₂.heap.PlainList SU ([] : List Value).toArray := g₂.kb.plain lSU ((ls.g g₁).notW lSU.isList)
  have sm₂ : Same ["sums"] m (up m "sums" (.ref SU)) := (Same.refl _ _).up (by decide +kernel)
  have nS₂ : up m "sums" (.ref SU) "sums" = some (.ref SU) := up_same
  generalize up m "sums" (.ref SU) = m₂ at ls₂ sm₂ nS₂
  have lCH₂ := q₂.kb.list lCH (ls.notW lCH)
  have nSW : SU ∉ WL L := ls₂.notW lSU₂.isList
  have hWS : ∀ b ∈ WL L ++ [SU], ∃ o, s₂.heap.get? b = some o := fun b hb => by
    rcases List.mem_append.mp hb with hb | hb
    · exact ls₂.at hb
    · rw [List.mem_singleton.mp hb]; obtain ⟨_, e⟩ := lSU₂; exact ⟨_, e⟩
  have hWS0 : ∀ b ∈ WL L ++ [SU], s₀.heap.get? b = none := fun b hb => by
    rcases List.mem_append.mp hb with hb | hb
    · exact hW b hb
    · rw [List.mem_singleton.mp hb]; exact g.fresh (by simp) hSU (by simp)
  have avoid : ∀ {b : Addr}, b ∉ WL L → b ≠ SU → b ∉ WL L ++ [SU] := fun {b} h1 h2 q => by
    rcases List.mem_append.mp q with q | q
    · exact h1 q
    · exact h2 (List.mem_singleton.mp q)
  have nPS : PL ∉ WL L ++ [SU] := avoid (lP.notW ls) (lP.ne hSU)
  have nOS : WO ∉ WL L ++ [SU] := avoid (lO.notW ls) (lO.ne hSU)
  refine wpAny_execs_cons (forList (l := CH) (items := cv.toArray) (WL L ++ [SU])
    (fun i h => ∃ m' sv, LS L h m' cm ∧ Same ["parts", "within", "part"] m₂ m' ∧ h.PlainList SU (List.toArray sv) ∧ IntsAre sv ((List.range i).map fun q => sumF pl wz (partsOf (pl.idxOf q))))
    ok.hh ?_ lCH₂ (avoid (ls.notW lCH) nCS) hWS ⟨_, _, ls₂, Same.refl _ _, lSU₂, .nil⟩ (fun i h h' ⟨m', sv, a, b, c, d⟩ kf => ⟨m', sv, a.kf kf, b, kf.plain c, d⟩) ?_ ?_)
  · exact rdL ls₂ (sm₂.get (by decide +kernel) nCH) ⟨rfl, Goes.refl _ _⟩ (by kernel_rfl) (by decide)
  · rintro i v s₃ E' hv ⟨m₃, sv, ls₃, sm₃, lS₃, iS₃⟩ g₃
    have hi : i < row.length := by
      have := (List.getElem?_eq_some_iff.mp (show cv[i]? = some v by simpa using hv)).1
      omega
    obtain ⟨D, hcD, lD, nDS⟩ := nDS i hi
    have ev : v = .ref D := by
      have : cv[i]? = some v := by simpa using hv
      rw [hcD] at this; exact (Option.some.inj this).symm
    subst ev
    have hsv : sv.length = i := by have := iS₃.length; simpa using this
    have G₃ : Goes [] s₀ s₃ := (g.locs hW q₂).locs hWS0 g₃
    have lD₂ := lD.w ls q₂
    have lD₃ := lD₂.keep g₃.kb (avoid (lD.notW ls) nDS)
    have lP₃ := (lP.w ls q₂).keep g₃.kb nPS
    have lO₃ := (lO.w ls q₂).keep g₃.kb nOS
    have hf := r.first hi
    have hplen : (partsOf (pl.idxOf i)).length ≤ 32 := by
      have := partsGo_length (pl.idxOf i) (pl.idxOf i)
      simp only [partsOf, List.length_cons]; omega
    refine LS.stL ls₃ (fun s₄ ls₄ g₄ => ?_) (by kernel_rfl)
    have np₄ : up m₃ "parts" (.ref D) "parts" = some (.ref D) := up_same
    have sm₄ : Same ["parts", "within", "part"] m₂ (up m₃ "parts" (.ref D)) := sm₃.up (by decide +kernel)
    generalize up m₃ "parts" (.ref D) = m₄ at ls₄ np₄ sm₄
    -- within = []
    refine wpAny_execs_cons (wpAny_Assign_Name (List_ (wpAny_items_nil (newListP (vs := []) (fun s₅ WI hWI lWI g₅ => ?_) (by simp)))) (by kernel_rfl))
    have ls₅ := ls₄.g g₅
    refine LS.stL ls₅ (fun s₆ ls₆ g₆ => ?_) (by kernel_rfl)
    have lWI₆ : s₆.heap.PlainList WI ([] : List Value).toArray := g₆.kb.plain lWI (ls₅.notW lWI.isList)
    have np₆ : up m₄ "within" (.ref WI) "parts" = some (.ref D) := up_else (by decide +kernel) np₄
    have nw₆ : up m₄ "within" (.ref WI) "within" = some (.ref WI) := up_same
    have sm₆ : Same ["parts", "within", "part"] m₂ (up m₄ "within" (.ref WI)) := sm₄.up (by decide +kernel)
    generalize up m₄ "within" (.ref WI) = m₆ at ls₆ np₆ nw₆ sm₆
    have q₆ : Goes (WL L) s₃ s₆ := (g₄.trans g₅.any).trans g₆
    have lD₆ := lD₃.w ls₃ q₆
    have lP₆ := lP₃.w ls₃ q₆
    have lO₆ := lO₃.w ls₃ q₆
    have lS₆ := q₆.kb.plain lS₃ nSW
    have hWI3 : s₃.heap.get? WI = none := g₄.fresh (fun b hb => ls₃.at hb) hWI (fun q => by obtain ⟨o, e⟩ := ls₄.at q; rw [hWI] at e; cases e)
    have G₆ : Goes [] s₀ s₆ := G₃.locs hW q₆
    have nDW := lD₃.ne hWI3
    have nPW := lP₃.ne hWI3
    have nOW := lO₃.ne hWI3
    have nSWI := list_ne lS₃.isList hWI3
    have nWIW : WI ∉ WL L := ls₆.notW lWI₆.isList
    have avoid' : ∀ {b : Addr}, b ∉ WL L → b ≠ WI → b ∉ WL L ++ [WI] := fun {b} h1 h2 q => by
      rcases List.mem_append.mp q with q | q
      · exact h1 q
      · exact h2 (List.mem_singleton.mp q)
    have hWI0 : ∀ b ∈ WL L ++ [WI], s₀.heap.get? b = none := fun b hb => by
      rcases List.mem_append.mp hb with hb | hb
      · exact hW b hb
      · rw [List.mem_singleton.mp hb]; exact G₃.fresh (by simp) hWI3 (by simp)
    obtain ⟨pv, hpv, hpi⟩ := id lD₆
    refine wpAny_execs_cons (forList (l := D) (items := pv.toArray) (WL L ++ [WI])
      (fun j h => ∃ m' wv, LS L h m' cm ∧ Same ["part"] m₆ m' ∧ h.PlainList WI (List.toArray wv) ∧ IntsAre wv (natI (withinF pl ((partsOf (pl.idxOf i)).take j))))
      ok.hh ?_ hpv (avoid' (lD₆.notW ls₆) nDW) (fun b hb => ?_) ⟨_, _, ls₆, Same.refl _ _, lWI₆, .nil⟩ (fun i h h' ⟨m', sv, a, b, c, d⟩ kf => ⟨m', sv, a.kf kf, b, kf.plain c, d⟩) ?_ ?_)
    · exact rdL ls₆ np₆ ⟨rfl, Goes.refl _ _⟩ (by kernel_rfl) (by decide)
    · rcases List.mem_append.mp hb with hb | hb
      · exact ls₆.at hb
      · rw [List.mem_singleton.mp hb]; obtain ⟨_, e⟩ := lWI₆; exact ⟨_, e⟩
    · rintro j v s₇ E'' hv ⟨m₇, wv, ls₇, sm₇, lW₇, iW₇⟩ g₇
      obtain ⟨B, tB, rfl, hB⟩ := nat_at hpi (by simpa using hv)
      obtain ⟨hBl, hBr⟩ := r.part hi (List.mem_of_getElem? hB)
      have hstep := withinF_succ (pl := pl) hB
      have hwv : wv.length ≤ 32 := by
        have h1 := iW₇.length
        have h2 := withinF_len pl ((partsOf (pl.idxOf i)).take j)
        simp [natI] at h1 h2
        omega
      refine LS.stL ls₇ (fun s₈ ls₈ g₈ => ?_) (by kernel_rfl)
      have sm₈ : Same ["part"] m₆ (up m₇ "part" (.int ((B : Nat) : Int) tB)) := sm₇.up (by decide +kernel)
      have nb₈ : up m₇ "part" (.int ((B : Nat) : Int) tB) "part" = some (.int ((B : Nat) : Int) tB) := up_same
      generalize up m₇ "part" (.int ((B : Nat) : Int) tB) = m₈ at ls₈ sm₈ nb₈
      have lP₈ := (lP₆.keep g₇.kb (avoid' (lP₆.notW ls₆) nPW)).w ls₇ g₈
      have lW₈ := g₈.kb.plain lW₇ nWIW
      refine wpAny_execs_cons (wpAny_If (wpAny_isTrue_Compare1 (Subscript_ ?_) (by kernel_rfl)))
      refine rdC (c := L + 6) ls₈ (by kernel_rfl) nP ?_ ?_ ?_
      refine rdL ls₈ nb₈ ?_ ?_ ?_
      refine itemN lP₈ (by rw [r.hpl]; exact hBl) (by rw [r.hpl]; omega) (fun tc => ?_) (by with_unfolding_all rfl)
      refine rdL ls₈ (sm₈.get (by decide +kernel) nw₆) ?_ ?_ ?_
      refine notin_list_ints lW₈.isList iW₇ (wpAny_truthy_bool ?_)
      rw [any_nat]
      by_cases hq : pl.getD B 0 ∈ withinF pl ((partsOf (pl.idxOf i)).take j)
      · rw [decide_eq_true hq]
        show wpAny _ _ (execs _ _) _ _ _
        refine wpAny_execs_nil (wpAny_execs_nil ⟨g₈.mono (fun _ q => List.mem_append_left _ q), _, wv, ls₈, sm₈, lW₈, ?_⟩)
        rw [hstep, if_pos hq]; exact iW₇
      · rw [decide_eq_false hq]
        show wpAny _ _ (execs _ _) _ _ _
        refine wpAny_execs_cons (wpAny_Expr (MethodCall_ ?_) (by kernel_rfl) (by kernel_rfl))
        refine rdL ls₈ (sm₈.get (by decide +kernel) nw₆) ?_ ?_ ?_
        refine getAppend lW₈ ?_
        refine callWith_method1 (wpAny_items_cons (Subscript_ ?_) (by kernel_rfl)) (by kernel_rfl) (by kernel_rfl)
        refine rdC (c := L + 6) ls₈ (by kernel_rfl) nP ?_ ?_ ?_
        refine rdL ls₈ nb₈ ?_ ?_ ?_
        refine itemN lP₈ (by rw [r.hpl]; exact hBl) (by rw [r.hpl]; omega) (fun td => ?_) (by with_unfolding_all rfl)
        refine wpAny_items_nil ?_
        refine callAppend lW₈ (by omega) fun s₉ lW₉ g₉ => ?_
        refine wpAny_execs_nil (wpAny_execs_nil ⟨(g₈.mono (fun _ q => List.mem_append_left _ q)).trans (g₉.mono (by simp)), _, _, ls₈.keep g₉.kb (by simpa using nWIW), sm₈, lW₉, ?_⟩)
        rw [hstep, if_neg hq]
        have := IntsAre.append iW₇ (.cons ((pl.getD B 0 : Nat) : Int) td .nil)
        simpa [natI] using this
        all_goals walk_at "sd"
      all_goals walk_at "sd"
    · rintro s₇ ⟨m₇, wv, ls₇, sm₇, lW₇, iW₇⟩ g₇
      have hpl' : pv.toArray.size = (partsOf (pl.idxOf i)).length := by
        have := hpi.length
        simp [natI] at this
        simp [this]
      rw [hpl', List.take_length] at iW₇
      have hwv := iW₇.length
      have hwl' := withinF_len pl (partsOf (pl.idxOf i))
      rw [show (natI (withinF pl (partsOf (pl.idxOf i)))).length = (withinF pl (partsOf (pl.idxOf i))).length by simp [natI]] at hwv
      have lS₇ := g₇.kb.plain lS₆ (avoid' nSW nSWI)
      have lO₇ := lO₆.keep g₇.kb (avoid' (lO₆.notW ls₆) nOW)
      have G₇ : Goes [] s₀ s₇ := G₆.locs hWI0 g₇
      have sc₇ := G₇.sc sc
      refine wpAny_execs_cons (wpAny_Expr (MethodCall_ ?_) (by kernel_rfl) (by kernel_rfl))
      refine rdL ls₇ (sm₇.get (by decide +kernel) (sm₆.get (by decide +kernel) nS₂)) ?_ ?_ ?_
      refine getAppend lS₇ ?_
      refine callWith_method1 (wpAny_items_cons (Call_ ?_ (by kernel_rfl)) (by kernel_rfl)) (by kernel_rfl) (by kernel_rfl)
      refine nmB (v := .builtin "sum") sc₇ (by simp [gl]) (by simp [bl]) ?_ ?_ ?_ ?_ ?_ ?_
      refine PyProof.Rows.callWith_builtin1 (wpAny_items_cons (compE (n := wv.toArray.size) (P := fun i v => wv.toArray[i]? = some v) (cl := [("worths", L + 7)])
        (fun _ _ _ k ys _ => IntsAre ys (((withinF pl (partsOf (pl.idxOf i))).take k).map fun q => wz.getD q 0))
        (by kernel_rfl) (by decide +kernel) (by kernel_rfl) (by decide +kernel) (by kernel_rfl) (by rw [List.size_toArray]; omega) ?_ (fun _ _ _ _ => .nil) (fun _ _ _ _ _ _ _ j _ => j) ?_ ?_ (by intro _; kernel_rfl)) (by kernel_rfl)) (by kernel_rfl) (by kernel_rfl)
      · refine rdL ls₇ (sm₇.get (by decide +kernel) nw₆) ?_ ?_ ?_
        exact src_list ok.hh (Goes.refl _ _) lW₇.isList
        all_goals walk_at "sd"
      · rintro D' C I k v ys s₈ m₈ E'' hk hP hys hn₈ hm₈ g₈ _ _
        refine wpAny_tests_nil ⟨Goes.refl _ _, ?_⟩
        simp only [if_true]
        obtain ⟨B, tB, rfl, hB⟩ := nat_at iW₇ (by simpa using hP)
        have hBr : B < row.length := by
          obtain ⟨X, hX, e⟩ := ((within_spec pl (partsOf (pl.idxOf i))).2 B).mp (List.mem_of_getElem? hB)
          rw [← e]; exact (r.part hi hX).2
        refine Subscript_ ?_
        refine rdF (c := L + 7) (ls₇.g g₈) (by kernel_rfl) (by kernel_rfl) nO ?_ ?_ ?_ ?_
        refine nmL hn₈ hm₈ ?_ ?_ ?_ ?_
        refine itemZ (lO₇.g g₈) (by omega) (by omega) (fun tz => ?_) (by with_unfolding_all rfl)
        refine ⟨Goes.refl _ _, ?_⟩
        rw [List.take_add_one, hB, List.map_append]
        exact IntsAre.append hys (.cons _ tz .nil)
        all_goals first | walk_at "sd"
      · rintro D' C I s₈ ys hD' lY hys g₈
        rw [List.size_toArray, hwv, List.take_length] at hys
        refine wpAny_items_nil ?_
        refine sumP ok.hh lY.isList hys fun s₉ t₉ g₉ => ?_
        have q₉ : Goes [] s₇ s₉ := g₈.trans g₉
        refine wpAny_items_nil ?_
        refine callAppend (q₉.kb.plain lS₇ (by simp)) (by omega) fun s₁₀ lS₁₀ g₁₀ => ?_
        refine wpAny_execs_nil ⟨?_, m₇, _, (ls₇.g q₉).keep g₁₀.kb (by simpa using nSW), ?_, lS₁₀, ?_⟩
        · have k1 : Goes (WL L ++ [SU]) s₃ s₆ := q₆.mono (fun _ q => List.mem_append_left _ q)
          have k2 : Goes (WL L ++ [SU]) s₃ s₇ := Goes.into (V := WL L ++ [WI]) (fun b hb => by
            rcases List.mem_append.mp hb with hb | hb
            · exact .inl (List.mem_append_left _ hb)
            · rw [List.mem_singleton.mp hb]; exact .inr hWI3) k1 g₇
          exact (k2.trans q₉.any).trans (g₁₀.mono (by simp))
        · intro y hy
          have hy' : (["part"] : List Str).contains y = false := by
            simp at hy ⊢
            exact hy.2.2
          rw [sm₇ y hy', sm₆ y hy]
        · rw [List.range_succ, List.map_append]
          exact IntsAre.append iS₃ (.cons _ t₉ .nil)
      all_goals walk_at "sd"
  · rintro s₃ ⟨m₃, sv, ls₃, sm₃, lS₃, iS₃⟩ g₃
    have G₂ : Goes [] s₀ s₂ := g.locs hW q₂
    rw [List.size_toArray, hcv] at iS₃
    have sg : ∀ {y : Str} {v : Option Value}, (["parts", "within", "part"] : List Str).contains y = false → (["sums"] : List Str).contains y = false → m y = v → m₃ y = v := fun h1 h2 e => sm₃.get h1 (sm₂.get h2 e)
    refine seg14 (sums := (List.range row.length).map fun q => sumF pl wz (partsOf (pl.idxOf q))) sc ok hW (G₂.locs hWS0 g₃) ls₃ r (fun q hq => range_map_get hq) (sg (by decide +kernel) (by decide +kernel) nCH) (g₃.kb.list lCH₂ (avoid (ls.notW lCH) nCS)) (fun q hq => ?_)
      (sg (by decide +kernel) (by decide +kernel) nW) ((lW.w ls q₂).keep g₃.kb (avoid (lW.notW ls) (lW.ne hSU))) (sg (by decide +kernel) (by decide +kernel) nZ) ((lZ.w ls q₂).keep g₃.kb (avoid (lZ.notW ls) (lZ.ne hSU)))
      (sm₃.get (by decide +kernel) nS₂) ⟨sv, lS₃.isList, iS₃⟩ (by simp) nR ((lR.w ls q₂).keep g₃.kb (avoid (lR.notW ls) (lR.ne hSU))) nP ((lP.w ls q₂).keep g₃.kb nPS) nO ((lO.w ls q₂).keep g₃.kb nOS) hwl h
    obtain ⟨D, a, b, c⟩ := nDS q hq
    exact ⟨D, a, (b.w ls q₂).keep g₃.kb (avoid (b.notW ls) c)⟩
end
end Mine
end

section
open PySem PySem.W PyProof.Rows PySem.Calls PySem.Spec
set_option Elab.async false
set_option maxRecDepth 100000
set_option maxHeartbeats 4000000
namespace Mine
local macro_rules | `(tactic| walk_at "sd") => `(tactic| first | kernel_rfl | decide | rfl)
theorem Rw.pl_lt {rw row : List Str} {pl : List Nat} (r : Rw rw row pl) {n : Nat} (h : n ∈ pl) : n < row.length := by
  obtain ⟨c, hc, e⟩ := List.mem_iff_getElem.mp h
  have := r.lt (c := c) (by rw [← r.hpl]; exact hc)
  rw [List.getD_eq_getElem?_getD, List.getElem?_eq_getElem hc] at this
  simp only [Option.getD_some] at this
  omega
theorem lookup_cell_ne {L C : Addr} {h h' : Heap} {m cm : Str → Option Value} (ls : LS L h m cm) (f : h.get? C = none) : C ∉ WL L := fun q => by
  obtain ⟨o, e⟩ := ls.at q
  rw [f] at e; cases e
/-- behind a comprehension that is bound to a local -/
theorem LS.comp {L C : Addr} {s s₁ s' : Shared} {m cm : Str → Option Value} {y : Str} {v : Value} (ls : LS L s.heap m cm) (f : s.heap.get? C = none) (g₁ : Goes [] s s₁) (g : Goes [L, C] s₁ s') (hn : s'.heap.Ns L (up m y v)) : LS L s'.heap (up m y v) cm := by
  refine ⟨hn, fun p hp => g.kb.cell ((ls.g g₁).cell p hp) fun q => ?_⟩
  rcases List.mem_cons.mp q with q | q
  · exact (cell_WL hp).2 q
  · have : p.2 ∈ WL L := (cell_WL hp).1
    rw [List.mem_singleton.mp q] at this
    exact lookup_cell_ne (h' := s.heap) ls f this

section
variable {prog : Program} {w : World} {A : Around} {E : Value → Shared → Prop} {s s₀ : Shared} {L : Addr} {m cm : Str → Option Value}
/-- choices = [_law_parts(places.index(p)) for p in range(len(row))] -/
theorem seg11 {Q : Flow → Shared → Prop} {Wd Z PL WO R : Addr} {rw row : List Str} {pl : List Nat} {wz : List Int} {pv : List Value} (sc : SC w s₀.heap) (ok : AOk A 20) (hW : ∀ b ∈ WL L, s₀.heap.get? b = none)
    (g : Goes [] s₀ s) (ls : LS L s.heap m cm) (r : Rw rw row pl)
    (nW : m "word" = some (.ref Wd)) (lW : SL s.heap Wd rw.reverse) (nZ : m "sizes" = some (.ref Z)) (lZ : IL s.heap Z (natI (szR rw)))
    (nR : cm "row" = some (.ref R)) (lR : SL s.heap R row) (nP : cm "places" = some (.ref PL)) (lP : s.heap.PlainList PL pv.toArray) (iP : IntsAre pv (natI pl)) (nO : cm "worths" = some (.ref WO)) (lO : IL s.heap WO wz) (hwl : wz.length = row.length)
    (h : ∀ s', Goes [] s₀ s' → Q (.ret (.bool true)) s') :
    wpAny (model prog w) A (execs ((bod 91).drop 11) (LE L)) Q E s := by
  have h32 := r.n32
  have hrl := r.hrl
  have hsl := sizeLine_eq
  have sc₁ := g.sc sc
  obtain ⟨rvs, hR, hRs⟩ := id lR
  have hRl := StrsAre.length hRs
  refine wpAny_execs_cons (compA (n := row.length) (P := fun i v => ∃ t, v = .int (i : Int) t) (cl := [("places", L + 6)]) (m := m)
    (fun D C I i ys h => ys.length = i ∧ ∀ q, q < i → ∃ X, ys[q]? = some (.ref X) ∧ IL h X (natI (partsOf (pl.idxOf q))) ∧ X ≠ D ∧ X ≠ C ∧ X ≠ I)
    (by kernel_rfl) (by kernel_rfl) (by decide +kernel) (by kernel_rfl) (by decide +kernel) (by kernel_rfl) (by omega) (by kernel_rfl) (by kernel_rfl) ls.ns ?_ (fun _ _ _ _ => ⟨rfl, fun _ h => absurd h (Nat.not_lt_zero _)⟩) ?_ ?_ ?_ (by intro _; kernel_rfl))
  · refine rangeLen (c := L + 5) sc₁ ls (by kernel_rfl) nR hR (by rw [List.size_toArray, hRl]) (by omega) (by kernel_rfl) (by decide) fun s' r g' hr' => ?_
    obtain ⟨t, u, z, hr'⟩ := hr'
    exact src_range ok.hh g' hr' (by omega)
  · rintro D C I i ys h h' ⟨j1, j2⟩ kd
    refine ⟨j1, fun q hq => ?_⟩
    obtain ⟨X, a, ⟨vs, b, c⟩, d, e, f⟩ := j2 q hq
    exact ⟨X, a, ⟨vs, b.at fun o e' => kd X o d e f e', c⟩, d, e, f⟩
  · rintro D C I i v ys s₃ m₃ E' hi ⟨t, rfl⟩ ⟨j1, j2⟩ hn₃ hm₃ g₃ ⟨oD, hD⟩ ⟨oI, hI⟩
    refine wpAny_tests_nil ⟨Goes.refl _ _, ?_⟩
    simp only [if_true]
    have sc₃ := g₃.sc sc₁
    have hf := r.first hi
    refine Call_ ?_ (by kernel_rfl)
    refine nmG sc₃ (v := .ref 86) (by simp [gl]) ?_ ?_ ?_ ?_ ?_
    refine callWith_def (o := { cls := .type "function", data := .func (fd 86) }) rfl (wpAny_items_cons (MethodCall_ ?_) (by kernel_rfl)) (by kernel_rfl)
    refine rdF (c := L + 6) (ls.g g₃) (by kernel_rfl) (by kernel_rfl) nP ?_ ?_ ?_ ?_
    have lP₃ := g₃.kb.plain lP (by simp)
    refine getIndex lP₃ ?_
    refine callWith_method1 (wpAny_items_cons ?_ (by kernel_rfl)) (by kernel_rfl) (by kernel_rfl)
    refine nmL hn₃ hm₃ ?_ ?_ ?_ ?_
    refine wpAny_items_nil ?_
    refine indexP lP₃.isList iP (fun n hn => by have := r.pl_lt hn; omega) (by rw [r.hpl]; omega) hf.1 fun t' => ?_
    refine wpAny_items_nil ⟨sc₃.K _ _ lk86, ?_⟩
    refine parts_ctr (c := pl.idxOf i) sc₃ (ok.mono (by decide)) (by omega) fun s₄ X xv g₄ hX lX iX => ?_
    replace g₄ : Goes [] s₃ s₄ := Goes.trans (Goes.of (KB.refl _ _)) g₄
    replace hX : s₃.heap.get? X = none := hX
    refine ⟨g₄, by simp [j1], fun q hq => ?_⟩
    rcases Nat.lt_or_ge q i with k | k
    · obtain ⟨Y, a, b, c⟩ := j2 q k
      exact ⟨Y, by rw [List.getElem?_append_left (by omega)]; exact a, b.g g₄, c⟩
    · have : q = i := by omega
      subst this
      refine ⟨X, by rw [List.getElem?_append_right (by omega), j1]; simp, ⟨xv, lX.isList, iX⟩, ?_, ?_, ?_⟩
      · rintro rfl; rw [hX] at hD; cases hD
      · rintro rfl; obtain ⟨o, _, _, e, _⟩ := hn₃; rw [hX] at e; cases e
      · rintro rfl; rw [hX] at hI; cases hI
    all_goals walk_at "sd"
  · rintro D C I s₁ s₂ ys hD hC hDC hDL lD ⟨j1, j2⟩ g₁ g₂ hn
    replace g₂ : Goes [L, C] s₁ s₂ := g₂
    replace hn : s₂.heap.Ns L (up m "choices" (.ref D)) := hn
    replace hDL : D ≠ L := hDL
    have ls₂ := ls.comp hC g₁ g₂ hn
    have av : ∀ {b : Addr} {vs : Array Value}, s₁.heap.IsList b vs → b ≠ C → b ∉ [L, C] := fun {b vs} x n q => by
      rcases List.mem_cons.mp q with rfl | q
      · exact (ls.g g₁).notW x (by simp [WL])
      · exact n (List.mem_singleton.mp q)
    have G₂ : Goes [] s₀ s₂ := (g.trans g₁).locs (W := [L, C]) (fun b hb => by
      rcases List.mem_cons.mp hb with rfl | hb
      · exact hW _ (by simp [WL])
      · rw [List.mem_singleton.mp hb]; exact g.fresh (by simp) hC (by simp)) g₂
    have kS : ∀ {b : Addr} {ss : List Str}, SL s.heap b ss → SL s₂.heap b ss := fun {b ss} x => (x.g g₁).keep g₂.kb (by obtain ⟨vs, l, _⟩ := x.g g₁; exact av l (x.ne hC))
    have kI : ∀ {b : Addr} {ss : List Int}, IL s.heap b ss → IL s₂.heap b ss := fun {b ss} x => (x.g g₁).keep g₂.kb (by obtain ⟨vs, l, _⟩ := x.g g₁; exact av l (x.ne hC))
    refine seg12 sc ok hW G₂ ls₂ r up_same (g₂.kb.list lD.isList (av lD.isList hDC)) j1 (fun q hq => ?_) (up_else (by decide +kernel) nW) (kS lW) (up_else (by decide +kernel) nZ) (kI lZ) nR (kS lR) nP (kI ⟨pv, lP.isList, iP⟩) nO (kI lO) hwl h
    obtain ⟨X, a, b, c, d, e⟩ := j2 q hq
    exact ⟨X, a, b.keep g₂.kb (by obtain ⟨vs, l, _⟩ := b; exact av l d)⟩

/-- worths -/
theorem seg10 {Q : Flow → Shared → Prop} {a Wd Z PL R : Addr} {ns : List Int} {rw row : List Str} {pl : List Nat} {pv : List Value} (sc : SC w s₀.heap) (ok : AOk A 20) (hW : ∀ b ∈ WL L, s₀.heap.get? b = none)
    (g : Goes [] s₀ s) (ls : LS L s.heap m cm) (r : Rw rw row pl)
    (nA : cm "script" = some (.ref a)) (lA : IL s.heap a ns) (hns : ns.length < 1000)
    (nW : m "word" = some (.ref Wd)) (lW : SL s.heap Wd rw.reverse) (nZ : m "sizes" = some (.ref Z)) (lZ : IL s.heap Z (natI (szR rw)))
    (nR : cm "row" = some (.ref R)) (lR : SL s.heap R row) (nP : cm "places" = some (.ref PL)) (lP : s.heap.PlainList PL pv.toArray) (iP : IntsAre pv (natI pl))
    (h : ∀ s', Goes [] s₀ s' → Q (.ret (.bool true)) s') :
    wpAny (model prog w) A (execs ((bod 91).drop 10) (LE L)) Q E s := by
  have h32 := r.n32
  have hrl := r.hrl
  have hsl := sizeLine_eq
  have sc₁ := g.sc sc
  obtain ⟨rvs, hR, hRs⟩ := id lR
  have hRl := StrsAre.length hRs
  obtain ⟨av, hA, hAi⟩ := id lA
  have hAl := hAi.length
  refine wpAny_execs_cons (wpAny_Assign_Name (compE (n := row.length) (P := fun i v => ∃ t, v = .int (i : Int) t) (cl := [("script", L + 1)])
    (fun _ _ _ i ys _ => ∃ zs, IntsAre ys zs ∧ zs.length = i)
    (by kernel_rfl) (by decide +kernel) (by kernel_rfl) (by decide +kernel) (by kernel_rfl) (by omega) ?_ (fun _ _ _ _ => ⟨[], .nil, rfl⟩) (fun _ _ _ _ _ _ _ j _ => j) ?_ ?_ (by intro _; kernel_rfl)) (by kernel_rfl))
  · refine rangeLen (c := L + 5) sc₁ ls (by kernel_rfl) nR hR (by rw [List.size_toArray, hRl]) (by omega) (by kernel_rfl) (by decide) fun s' r g' hr' => ?_
    obtain ⟨t, u, z, hr'⟩ := hr'
    exact src_range ok.hh g' hr' (by omega)
  · rintro D C I i v ys s₃ m₃ E' hi ⟨t, rfl⟩ ⟨zs, j1, j2⟩ hn₃ hm₃ g₃ _ _
    refine wpAny_tests_nil ⟨Goes.refl _ _, ?_⟩
    simp only [if_true]
    have sc₃ := g₃.sc sc₁
    have ls₃ := ls.g g₃
    have hA₃ := g₃.list hA
    have fin : ∀ (s' : Shared) (z : Int) (tz : Tok), Goes [] s₃ s' → Goes [] s₃ s' ∧ ∃ zs', IntsAre (ys ++ [.int z tz]) zs' ∧ zs'.length = i + 1 := fun s' z tz g' =>
      ⟨g', zs ++ [z], IntsAre.append j1 (.cons z tz .nil), by simp [j2]⟩
    refine wpAny_BinOp (wpAny_BinOp (wpAny_BinOp ?_))
    refine nmL hn₃ hm₃ ?_ ?_ ?_ ?_
    refine nmL hn₃ hm₃ ?_ ?_ ?_ ?_
    refine mul_int ?_ (IntMulOk.of_left (intBits_le_64 (by omega) (by omega)))
    refine wpAny_Constant_int (add_int ?_)
    refine wpAny_IfExp (isTrue_plain ?_ (by kernel_rfl))
    refine rdF (c := L + 1) ls₃ (by kernel_rfl) (by kernel_rfl) nA ?_ ?_ ?_ ?_
    refine wpAny_truthy_list hA₃ (by rw [List.size_toArray]; omega) ?_
    by_cases h0 : av = []
    · have : (!(av.toArray.isEmpty)) = false := by rw [h0]; rfl
      rw [this]
      show wpAny _ _ (eval _ _) _ _ _
      refine wpAny_Constant_int (add_int ?_)
      exact fin _ _ _ (Goes.of (KB.refl _ _))
    · have h1 : 0 < av.length := by
        cases av with
        | nil => exact absurd rfl h0
        | cons x y => simp
      have : (!(av.toArray.isEmpty)) = true := by
        cases av with
        | nil => exact absurd rfl h0
        | cons x y => rfl
      rw [this]
      show wpAny _ _ (eval _ _) _ _ _
      refine wpAny_BinOp (Subscript_ ?_)
      refine rdF (c := L + 1) ls₃ (by kernel_rfl) (by kernel_rfl) nA ?_ ?_ ?_ ?_
      refine wpAny_BinOp ?_
      refine nmL hn₃ hm₃ ?_ ?_ ?_ ?_
      refine Call_ ?_ (by kernel_rfl)
      refine nmB (v := .builtin "len") sc₃ (by simp [gl]) (by simp [bl]) ?_ ?_ ?_ ?_ ?_ ?_
      refine PyProof.Rows.callWith_builtin1 (wpAny_items_cons ?_ (by kernel_rfl)) (by kernel_rfl) (by kernel_rfl)
      refine rdF (c := L + 1) ls₃ (by kernel_rfl) (by kernel_rfl) nA ?_ ?_ ?_ ?_
      refine wpAny_items_nil ?_
      refine call_len_list hA₃ (by rw [List.size_toArray]; omega) ?_
      have e8 : ((av.toArray.size : Nat) : Int) = (ns.length : Int) := by rw [List.size_toArray, hAl]
      rw [e8]
      refine mod_int' (by omega) ?_
      have e9 : Int.fmod (i : Int) (ns.length : Int) = ((i % ns.length : Nat) : Int) := by
        rw [Int.fmod_eq_emod_of_nonneg _ (by omega)]
        simp
      rw [e9]
      have hj : i % ns.length < ns.length := Nat.mod_lt _ (by omega)
      generalize i % ns.length = j at hj
      have lA₃ := lA.g g₃
      refine itemZ lA₃ hj (by omega) (fun tj => ?_) (by with_unfolding_all rfl)
      refine wpAny_BinOp (wpAny_Constant_int (wpAny_Constant_int (pow_int_small (by decide) (by decide) (by decide) (mod_int' (by decide) (add_int ?_)))))
      exact fin _ _ _ (Goes.of (KB.refl _ _))
      all_goals walk_at "sd"
    all_goals walk_at "sd"
  · rintro D C I s₁ ys hD lD ⟨zs, j1, j2⟩ g₁
    refine LS.stC (c := L + 7) (ls.g g₁) (by kernel_rfl) (fun s₂ ls₂ g₂ => ?_) (by kernel_rfl)
    have G₂ : Goes [] s₀ s₂ := (g.trans g₁).locs hW g₂
    have ls₁ := ls.g g₁
    refine seg11 sc ok hW G₂ ls₂ r nW ((lW.g g₁).w ls₁ g₂) nZ ((lZ.g g₁).w ls₁ g₂) (up_else (by decide +kernel) nR) ((lR.g g₁).w ls₁ g₂) (up_else (by decide +kernel) nP) (g₂.kb.plain (g₁.kb.plain lP (by simp)) (ls₁.notW (g₁.list lP.isList))) iP
      up_same (IL.w ⟨ys, lD.isList, j1⟩ ls₁ g₂) j2 h

/-- places -/
theorem seg9 {Q : Flow → Shared → Prop} {a Wd Z N R : Addr} {ns : List Int} {rw row : List Str} (sc : SC w s₀.heap) (ok : AOk A 20) (hW : ∀ b ∈ WL L, s₀.heap.get? b = none)
    (g : Goes [] s₀ s) (ls : LS L s.heap m cm) (hL : ∀ l ∈ rw, l ∈ letters) (h5 : rw.length ≤ 5) (hr : row.Pairwise slt) (hm : ∀ x, x ∈ row ↔ x ∈ plR rw) (hrl : row.length ≤ 32)
    (nA : cm "script" = some (.ref a)) (lA : IL s.heap a ns) (hns : ns.length < 1000)
    (nW : m "word" = some (.ref Wd)) (lW : SL s.heap Wd rw.reverse) (nZ : m "sizes" = some (.ref Z)) (lZ : IL s.heap Z (natI (szR rw)))
    (nN : cm "names" = some (.ref N)) (lN : SL s.heap N (plR rw))
    (nR : cm "row" = some (.ref R)) (lR : SL s.heap R row)
    (h : ∀ s', Goes [] s₀ s' → Q (.ret (.bool true)) s') :
    wpAny (model prog w) A (execs ((bod 91).drop 9) (LE L)) Q E s := by
  have h32 : 2 ^ rw.length ≤ 32 := Nat.pow_le_pow_right (n := 2) (by decide) h5
  have hsl := sizeLine_eq
  have sc₁ := g.sc sc
  obtain ⟨rvs, hR, hRs⟩ := id lR
  obtain ⟨nv, hN, hNs⟩ := id lN
  have hNl := StrsAre.length hNs
  have hpl := plR_length rw
  refine wpAny_execs_cons (wpAny_Assign_Name (compE (n := nv.toArray.size) (P := fun i v => nv.toArray[i]? = some v) (cl := [("row", L + 5)])
    (fun _ _ _ i ys _ => ∃ ks : List Nat, IntsAre ys (natI ks) ∧ ks.length = i ∧ ∀ c x, c < i → (plR rw)[c]? = some x → row[ks.getD c 0]? = some x)
    (by kernel_rfl) (by decide +kernel) (by kernel_rfl) (by decide +kernel) (by kernel_rfl) (by rw [List.size_toArray]; omega) ?_ (fun _ _ _ _ => ⟨[], .nil, rfl, fun _ _ h => absurd h (Nat.not_lt_zero _)⟩) (fun _ _ _ _ _ _ _ j _ => j) ?_ ?_ (by intro _; kernel_rfl)) (by kernel_rfl))
  · refine rdC (c := L + 2) ls (by kernel_rfl) nN ?_ ?_ ?_
    exact src_list ok.hh (Goes.refl _ _) hN
    all_goals walk_at "sd"
  · rintro D C I i v ys s₃ m₃ E' hi hP ⟨ks, j1, j2, j3⟩ hn₃ hm₃ g₃ _ _
    obtain ⟨x, tx, rfl, hx⟩ := StrsAre.at hNs (show nv[i]? = some v by simpa using hP)
    refine wpAny_tests_nil ⟨Goes.refl _ _, ?_⟩
    simp only [if_true]
    have sc₃ := g₃.sc sc₁
    have ls₃ := ls.g g₃
    refine Call_ ?_ (by kernel_rfl)
    refine nmG sc₃ (v := .ref 46) (by simp [gl]) ?_ ?_ ?_ ?_ ?_
    refine callWith_def (o := { cls := .type "function", data := .func (fd 46) }) rfl (wpAny_items_cons ?_ (by kernel_rfl)) (by kernel_rfl)
    refine rdF (c := L + 5) ls₃ (by kernel_rfl) (by kernel_rfl) nR ?_ ?_ ?_ ?_
    refine wpAny_items_cons ?_ (by kernel_rfl)
    refine nmL hn₃ hm₃ ?_ ?_ ?_ ?_
    refine wpAny_items_nil ⟨sc₃.K _ _ lk46, ?_⟩
    refine bis2_ctr sc₃ (ok.mono (by decide)) (g₃.list hR) hRs (by omega) hr fun s₄ k tk g₄ hb => ?_
    refine ⟨g₄, ks ++ [k], ?_, by simp [j2], fun c y hc hy => ?_⟩
    · have := IntsAre.append j1 (.cons ((k : Nat) : Int) tk .nil)
      simpa [natI] using this
    · rcases Nat.lt_or_ge c i with q | q
      · have := j3 c y q hy
        rw [List.getD_eq_getElem?_getD, List.getElem?_append_left (by omega), ← List.getD_eq_getElem?_getD]
        exact this
      · have : c = i := by omega
        subst this
        rw [hx] at hy
        cases hy
        rw [List.getD_eq_getElem?_getD, List.getElem?_append_right (by omega), j2]
        simpa using bis_mem hr hb ((hm x).mpr (List.mem_of_getElem? hx))
    all_goals walk_at "sd"
  · rintro D C I s₁ ys hD lD ⟨ks, j1, j2, j3⟩ g₁
    rw [List.size_toArray] at j2 j3
    refine LS.stC (c := L + 6) (ls.g g₁) (by kernel_rfl) (fun s₂ ls₂ g₂ => ?_) (by kernel_rfl)
    have G₂ : Goes [] s₀ s₂ := (g.trans g₁).locs hW g₂
    have ls₁ := ls.g g₁
    refine seg10 sc ok hW G₂ ls₂ ⟨hL, h5, hr, hm, hrl, by omega, fun c x hx => j3 c x ?_ hx⟩ (up_else (by decide +kernel) nA) ((lA.g g₁).w ls₁ g₂) hns nW ((lW.g g₁).w ls₁ g₂) nZ ((lZ.g g₁).w ls₁ g₂) (up_else (by decide +kernel) nR) ((lR.g g₁).w ls₁ g₂)
      up_same (g₂.kb.plain lD (ls₁.notW lD.isList)) j1 h
    have := (List.getElem?_eq_some_iff.mp hx).1
    omega
end
end Mine
end

section
open PySem PySem.W PyProof.Rows PySem.Calls PySem.Spec
set_option Elab.async false
set_option maxRecDepth 100000
set_option maxHeartbeats 4000000
namespace Mine
local macro_rules | `(tactic| walk_at "sd") => `(tactic| first | kernel_rfl | decide | rfl)
theorem any_str (y : Str) : ∀ ss : List Str, (ss.any fun x => x == y) = decide (y ∈ ss)
  | [] => rfl
  | n :: r => by
    rw [List.any_cons, any_str y r]
    by_cases h : n = y
    · subst h; simp
    · have h2 : ¬ y = n := fun e => h e.symm
      rw [beq_false_of_ne h]; simp [h2]
theorem slice_one (rv : List Value) {k : Nat} (h : k ≤ rv.length) : slicePick rv.toArray (some ((k : Nat) : Int)) (some (((k + 1 : Nat)) : Int)) none = ((rv.drop k).take 1).toArray := by
  rw [slicePick_plain]
  simp only [Option.elim, clipAt_nat, List.size_toArray]
  congr 1
  rw [Nat.min_eq_left h]
  rcases Nat.lt_or_ge k rv.length with q | q
  · rw [Nat.min_eq_left (by omega)]
    have : k + 1 - k = 1 := by omega
    rw [this]
  · rw [List.drop_eq_nil_of_le (by simpa using q)]
    simp
theorem one_is {ss : List Str} {x : Str} {k : Nat} : (ss.drop k).take 1 = [x] ↔ ss[k]? = some x := by
  rw [List.take_one, List.head?_drop]
  cases ss[k]? <;> simp

section
variable {prog : Program} {w : World} {A : Around} {E : Value → Shared → Prop} {s s₀ : Shared} {L : Addr} {m cm : Str → Option Value}
theorem sliceP {value slice : Expr} {l : Addr} {items : Array Value} {vl vu : Value} {lo hi : Option Int} {Q : Value → Shared → Prop} (hl : s.heap.IsList l items) (pl : IsPart vl lo) (pu : IsPart vu hi)
    (h : ∀ s' D, s'.heap.PlainList D (slicePick items lo hi none) → Goes [] s s' → Q (.ref D) s')
    (hs : subscripted slice false (.ref l) (.ref s.heap.objs.size) = operate [.ref s.heap.objs.size, .ref l] (getItem (.ref l) (.ref s.heap.objs.size)))
    (ht : ∀ r, letTemporaryGo value (.ref l) r = pure ()) (hsz : items.size ≤ sizeLine) :
    wpAny (model prog w) A (subscriptTail value slice (.ref l) (.ref s.heap.objs.size)) Q E { s with heap := s.heap.push { cls := .type "slice", data := .fields #[vl, vu, .none] } } := by
  refine slice_listK hl pl pu (h _ _ ?_ (Goes.of ((KB.push _).trans (KB.push _)))) hs ht hsz
  have e : (s.heap.push { cls := .type "slice", data := .fields #[vl, vu, .none] }).objs.size = s.heap.objs.size + 1 := Heap.size_push ..
  rw [← e]
  exact ⟨_, Heap.get?_push_size _ rfl⟩
theorem seg8 {Q : Flow → Shared → Prop} {a Wd Z N P R : Addr} {ns : List Int} {rw row : List Str} (sc : SC w s₀.heap) (ok : AOk A 20) (hW : ∀ b ∈ WL L, s₀.heap.get? b = none)
    (g : Goes [] s₀ s) (ls : LS L s.heap m cm) (hL : ∀ l ∈ rw, l ∈ letters) (h5 : rw.length ≤ 5) (hr : row.Pairwise slt) (hm : ∀ x, x ∈ row ↔ x ∈ plR rw) (hrl : row.length ≤ 32)
    (nA : cm "script" = some (.ref a)) (lA : IL s.heap a ns) (hns : ns.length < 1000)
    (nW : m "word" = some (.ref Wd)) (lW : SL s.heap Wd rw.reverse) (nZ : m "sizes" = some (.ref Z)) (lZ : IL s.heap Z (natI (szR rw)))
    (nN : cm "names" = some (.ref N)) (lN : SL s.heap N (plR rw)) (nP : cm "plain" = some (.ref P)) (lP : SL s.heap P (plR rw))
    (nR : cm "row" = some (.ref R)) (lR : SL s.heap R row)
    (h : ∀ s', Goes [] s₀ s' → Q (.ret (.bool true)) s') :
    wpAny (model prog w) A (execs ((bod 91).drop 8) (LE L)) Q E s := by
  have h32 : 2 ^ rw.length ≤ 32 := Nat.pow_le_pow_right (n := 2) (by decide) h5
  have hsl := sizeLine_eq
  have sc₁ := g.sc sc
  obtain ⟨rvs, hR, hRs⟩ := id lR
  obtain ⟨pv, hP, hPs⟩ := id lP
  have hPl := StrsAre.length hPs
  have hpl := plR_length rw
  refine wpAny_execs_cons (wpAny_If (wpAny_isTrue_Compare1 ?_ (by kernel_rfl)))
  refine rdC (c := L + 5) ls (by kernel_rfl) nR ?_ ?_ ?_
  refine Call_ ?_ (by kernel_rfl)
  refine nmB (v := .builtin "sorted") sc₁ (by simp [gl]) (by simp [bl]) ?_ ?_ ?_ ?_ ?_ ?_
  refine PyProof.Rows.callWith_builtin1 (wpAny_items_cons (compE (n := 2 ^ rw.length) (P := fun i v => ∃ t, v = .int (i : Int) t) (cl := [("plain", L + 3)])
    (fun _ _ _ i ys _ => ∃ zs, StrsAre ys zs ∧ zs.Nodup ∧ (∀ x, x ∈ zs ↔ x ∈ (plR rw).take i) ∧ zs.length ≤ i)
    (by kernel_rfl) (by decide +kernel) (by kernel_rfl) (by decide +kernel) (by kernel_rfl) (by omega) ?_ (fun _ _ _ _ => ⟨[], .nil, List.nodup_nil, by simp, Nat.le_refl _⟩) (fun _ _ _ _ _ _ _ j _ => j) ?_ ?_ (by intro _; kernel_rfl)) (by kernel_rfl)) (by kernel_rfl) (by kernel_rfl)
  · refine rangeLen (c := L + 3) sc₁ ls (by kernel_rfl) nP hP (by rw [List.size_toArray, hPl, hpl]) (by omega) (by kernel_rfl) (by decide) fun s' r g' hr' => ?_
    obtain ⟨t, u, z, hr'⟩ := hr'
    exact src_range ok.hh g' hr' (by omega)
  · rintro D C I i v ys s₃ m₃ E' hi ⟨t, rfl⟩ ⟨zs, j1, j2, j3, j4⟩ hn₃ hm₃ g₃ _ _
    have ls₃ := ls.g g₃
    have hP₃ := g₃.list hP
    obtain ⟨y, hy⟩ : ∃ y, (plR rw)[i]? = some y := ⟨(plR rw)[i]'(by omega), by simp⟩
    obtain ⟨ty, hv⟩ := StrsAre.to hPs hy
    have htk : (plR rw).take (i + 1) = (plR rw).take i ++ [y] := by rw [List.take_add_one, hy]; rfl
    refine wpAny_tests_one (wpAny_isTrue_Compare1 (Subscript_ ?_) (by kernel_rfl))
    refine rdF (c := L + 3) ls₃ (by kernel_rfl) (by kernel_rfl) nP ?_ ?_ ?_ ?_
    refine nmL hn₃ hm₃ ?_ ?_ ?_ ?_
    refine item_listR hP₃ (by omega) (by omega) (x := .str y ty) (by simpa using hv) ?_ (by with_unfolding_all rfl)
    refine Subscript_ ?_
    refine rdF (c := L + 3) ls₃ (by kernel_rfl) (by kernel_rfl) nP ?_ ?_ ?_ ?_
    refine wpAny_Slice (wpAny_evalPart_none (wpAny_evalPart_some ?_))
    refine nmL hn₃ hm₃ ?_ ?_ ?_ ?_
    refine wpAny_evalPart_none (sliceP hP₃ .none (.int _ _) (fun s₄ X lX g₄ => ?_) (by with_unfolding_all rfl) (by intro _; with_unfolding_all rfl) (by rw [List.size_toArray]; omega))
    rw [slicePick_upto' pv.toArray i] at lX
    refine notin_list_strs (vs := pv.take i) (ys := (plR rw).take i) lX.isList (StrsAre.take' hPs i) (wpAny_truthy_bool ⟨g₄, ?_⟩)
    rw [any_str]
    by_cases hq : y ∈ (plR rw).take i
    · rw [decide_eq_true hq]
      simp only [Bool.not_true, Bool.false_eq_true, if_false]
      refine ⟨zs, j1, j2, fun x => ?_, by omega⟩
      rw [j3 x, htk, List.mem_append, List.mem_singleton]
      exact ⟨.inl, fun e => e.elim id fun e => e ▸ hq⟩
    · rw [decide_eq_false hq]
      simp only [Bool.not_false, if_true]
      refine Subscript_ ?_
      refine rdF (c := L + 3) (ls₃.g g₄) (by kernel_rfl) (by kernel_rfl) nP ?_ ?_ ?_ ?_
      refine nmL (g₄.ns hn₃) hm₃ ?_ ?_ ?_ ?_
      refine item_listR (g₄.list hP₃) (by omega) (by omega) (x := .str y ty) (by simpa using hv) ?_ (by with_unfolding_all rfl)
      refine ⟨Goes.refl _ _, zs ++ [y], StrsAre.append' j1 (.cons y ty .nil), ?_, fun x => ?_, by simp; omega⟩
      · refine List.nodup_append.mpr ⟨j2, by simp, ?_⟩
        intro b hb c hc e
        rw [List.mem_singleton.mp hc] at e
        exact hq ((j3 y).mp (e ▸ hb))
      · rw [htk, List.mem_append, List.mem_append, j3 x]
      all_goals walk_at "sd"
    all_goals walk_at "sd"
  · rintro D C I s₁ ys hD lD ⟨zs, j1, j2, j3, j4⟩ g₁
    have hys := StrsAre.length j1
    rw [List.take_of_length_le (by omega)] at j3
    refine wpAny_items_nil ?_
    refine sortedP lD.isList j1 (by omega) fun s₂ X xv ss hX lX iX hperm hsort g₂ => ?_
    have q₂ := g₁.trans g₂
    have e : row = ss := sorted_row hr j2 (fun x => (hm x).trans (j3 x).symm) hperm hsort
    subst e
    have sok : ∀ x ∈ row, PyData.strOk x = true := fun x hx => (plR_ok hL x ((hm x).mp hx)).1
    refine neStrs (q₂.list hR) lX hRs iX sok sok (by have := ok.hu; omega) (wpAny_truthy_bool ?_)
    rw [decide_eq_true rfl]
    show wpAny _ _ (execs _ _) _ _ _
    refine wpAny_execs_nil ?_
    exact seg9 sc ok hW (g.trans q₂) (ls.g q₂) hL h5 hr hm hrl nA (lA.g q₂) hns nW (lW.g q₂) nZ (lZ.g q₂) nN (lN.g q₂) nR (lR.g q₂) h
  all_goals walk_at "sd"

theorem seg6 {Q : Flow → Shared → Prop} {a Wd Z N P : Addr} {ns : List Int} {rw : List Str} (sc : SC w s₀.heap) (ok : AOk A 20) (hW : ∀ b ∈ WL L, s₀.heap.get? b = none)
    (g : Goes [] s₀ s) (ls : LS L s.heap m cm) (hL : ∀ l ∈ rw, l ∈ letters) (h5 : rw.length ≤ 5)
    (nA : cm "script" = some (.ref a)) (lA : IL s.heap a ns) (hns : ns.length < 1000)
    (nW : m "word" = some (.ref Wd)) (lW : SL s.heap Wd rw.reverse) (nZ : m "sizes" = some (.ref Z)) (lZ : IL s.heap Z (natI (szR rw)))
    (nN : cm "names" = some (.ref N)) (lN : SL s.heap N (plR rw)) (nP : cm "plain" = some (.ref P)) (lP : SL s.heap P (plR rw))
    (h : ∀ s', Goes [] s₀ s' → Q (.ret (.bool true)) s') :
    wpAny (model prog w) A (execs ((bod 91).drop 6) (LE L)) Q E s := by
  have h32 : 2 ^ rw.length ≤ 32 := Nat.pow_le_pow_right (n := 2) (by decide) h5
  have hsl := sizeLine_eq
  have hpl := plR_length rw
  -- row = []
  refine wpAny_execs_cons (wpAny_Assign_Name (List_ (wpAny_items_nil (newListP (vs := []) (fun s₁ R hR lR g₁ => ?_) (by simp)))) (by kernel_rfl))
  have ls₁ := ls.g g₁
  refine LS.stC (c := L + 5) ls₁ (by kernel_rfl) (fun s₂ ls₂ g₂ => ?_) (by kernel_rfl)
  have q₂ : Goes (WL L) s s₂ := g₁.any.trans g₂
  have lR₂ : s₂.heap.PlainList R ([] : List Value).toArray := g₂.kb.plain lR (ls₁.notW lR.isList)
  have nR₂ : up cm "row" (.ref R) "row" = some (.ref R) := up_same
  have nA₂ : up cm "row" (.ref R) "script" = some (.ref a) := up_else (by decide +kernel) nA
  have nN₂ : up cm "row" (.ref R) "names" = some (.ref N) := up_else (by decide +kernel) nN
  have nP₂ : up cm "row" (.ref R) "plain" = some (.ref P) := up_else (by decide +kernel) nP
  generalize up cm "row" (.ref R) = cm₂ at ls₂ nR₂ nA₂ nN₂ nP₂
  have nRW : R ∉ WL L := ls₂.notW lR₂.isList
  have hWR : ∀ b ∈ WL L ++ [R], ∃ o, s₂.heap.get? b = some o := fun b hb => by
    rcases List.mem_append.mp hb with hb | hb
    · exact ls₂.at hb
    · rw [List.mem_singleton.mp hb]; obtain ⟨_, e⟩ := lR₂; exact ⟨_, e⟩
  have hWR0 : ∀ b ∈ WL L ++ [R], s₀.heap.get? b = none := fun b hb => by
    rcases List.mem_append.mp hb with hb | hb
    · exact hW b hb
    · rw [List.mem_singleton.mp hb]; exact g.fresh (by simp) hR (by simp)
  have avoid : ∀ {b : Addr}, b ∉ WL L → b ≠ R → b ∉ WL L ++ [R] := fun {b} h1 h2 q => by
    rcases List.mem_append.mp q with q | q
    · exact h1 q
    · exact h2 (List.mem_singleton.mp q)
  have G₂ : Goes [] s₀ s₂ := g.locs hW q₂
  have lN₂ := lN.w ls q₂
  obtain ⟨nv, hN, hNs⟩ := id lN₂
  have hNl := StrsAre.length hNs
  refine wpAny_execs_cons (forList (l := N) (items := nv.toArray) (WL L ++ [R])
    (fun i h => ∃ m' row rv, LS L h m' cm₂ ∧ Same ["name", "spot"] m m' ∧ h.PlainList R (List.toArray rv) ∧ StrsAre rv row ∧ row.Pairwise slt ∧ (∀ x, x ∈ row ↔ x ∈ (plR rw).take i) ∧ row.length ≤ i)
    ok.hh ?_ hN (avoid (lN.notW ls) (lN.ne hR)) hWR ⟨_, [], [], ls₂, Same.refl _ _, lR₂, .nil, List.Pairwise.nil, by simp, Nat.le_refl _⟩ (fun i h h' ⟨m', row, rv, a, b, c, d⟩ kf => ⟨m', row, rv, a.kf kf, b, kf.plain c, d⟩) ?_ ?_)
  · exact rdC (c := L + 2) ls₂ (by kernel_rfl) nN₂ ⟨rfl, Goes.refl _ _⟩ (by kernel_rfl) (by decide)
  · rintro i v s₃ E' hv ⟨m₃, row, rv, ls₃, sm₃, lR₃, iR₃, hr, hm, hl⟩ g₃
    obtain ⟨x, tx, rfl, hx⟩ := StrsAre.at hNs (show nv[i]? = some v by simpa using hv)
    have hi : i < (plR rw).length := (List.getElem?_eq_some_iff.mp hx).1
    have htk : (plR rw).take (i + 1) = (plR rw).take i ++ [x] := by rw [List.take_add_one, hx]; rfl
    have hrv := StrsAre.length iR₃
    have G₃ : Goes [] s₀ s₃ := G₂.locs hWR0 g₃
    refine LS.stL ls₃ (fun s₄ ls₄ g₄ => ?_) (by kernel_rfl)
    have nn₄ : up m₃ "name" (.str x tx) "name" = some (.str x tx) := up_same
    have sm₄ : Same ["name", "spot"] m (up m₃ "name" (.str x tx)) := sm₃.up (by decide +kernel)
    generalize up m₃ "name" (.str x tx) = m₄ at ls₄ nn₄ sm₄
    have lR₄ := g₄.kb.plain lR₃ nRW
    have G₄ : Goes [] s₀ s₄ := G₃.locs hW g₄
    have sc₄ := G₄.sc sc
    refine wpAny_execs_cons (wpAny_Assign_Name (Call_ ?_ (by kernel_rfl)) (by kernel_rfl))
    refine nmG sc₄ (v := .ref 46) (by simp [gl]) ?_ ?_ ?_ ?_ ?_
    refine callWith_def (o := { cls := .type "function", data := .func (fd 46) }) rfl (wpAny_items_cons ?_ (by kernel_rfl)) (by kernel_rfl)
    refine rdC (c := L + 5) ls₄ (by kernel_rfl) nR₂ ?_ ?_ ?_
    refine wpAny_items_cons ?_ (by kernel_rfl)
    refine rdL ls₄ nn₄ ?_ ?_ ?_
    refine wpAny_items_nil ⟨sc₄.K _ _ lk46, ?_⟩
    refine bis2_ctr sc₄ (ok.mono (by decide)) lR₄.isList iR₃ (by omega) hr fun s₅ k tk g₅ hb => ?_
    have hk := hb.le
    refine LS.stL (ls₄.g g₅) (fun s₆ ls₆ g₆ => ?_) (by kernel_rfl)
    have nn₆ : up m₄ "spot" (.int ((k : Nat) : Int) tk) "name" = some (.str x tx) := up_else (by decide +kernel) nn₄
    have nk₆ : up m₄ "spot" (.int ((k : Nat) : Int) tk) "spot" = some (.int ((k : Nat) : Int) tk) := up_same
    have sm₆ : Same ["name", "spot"] m (up m₄ "spot" (.int ((k : Nat) : Int) tk)) := sm₄.up (by decide +kernel)
    generalize up m₄ "spot" (.int ((k : Nat) : Int) tk) = m₆ at ls₆ nn₆ nk₆ sm₆
    have q₆ : Goes (WL L) s₃ s₆ := (g₄.trans g₅.any).trans g₆
    have lR₆ := q₆.kb.plain lR₃ nRW
    refine wpAny_execs_cons (wpAny_If (wpAny_isTrue_Compare1 (Subscript_ ?_) (by kernel_rfl)))
    refine rdC (c := L + 5) ls₆ (by kernel_rfl) nR₂ ?_ ?_ ?_
    refine wpAny_Slice (wpAny_evalPart_some ?_)
    refine rdL ls₆ nk₆ ?_ ?_ ?_
    refine wpAny_evalPart_some (wpAny_BinOp ?_)
    refine rdL ls₆ nk₆ ?_ ?_ ?_
    refine wpAny_Constant_int (add_int (wpAny_evalPart_none (sliceP lR₆.isList (.int _ _) (.int _ _) (fun s₇ X lX₇ g₇ => ?_) (by with_unfolding_all rfl) (by intro _; with_unfolding_all rfl) (by rw [List.size_toArray]; omega))))
    replace g₇ : Goes [] s₆ s₇ := Goes.trans (Goes.of (KB.refl _ _)) g₇
    replace lX₇ : s₇.heap.PlainList X (slicePick rv.toArray (some ((k : Nat) : Int)) (some (((k + 1 : Nat)) : Int)) none) := lX₇
    rw [slice_one rv (by omega)] at lX₇
    refine List_ (wpAny_items_cons ?_ (by kernel_rfl))
    refine rdL (ls₆.g g₇) nn₆ ?_ ?_ ?_
    refine wpAny_items_nil (newListP (vs := [.str x tx]) (fun s₈ Y hY lY g₈ => ?_) (by simp; omega))
    have q₈ : Goes [] s₆ s₈ := g₇.trans g₈
    have hx5 : PyData.strOk x = true := (plR_ok hL x (List.mem_of_getElem? hx)).1
    have sok : ∀ y ∈ row, PyData.strOk y = true := fun y hy => (plR_ok hL y (List.mem_of_mem_take ((hm y).mp hy))).1
    refine neStrs (g₈.list lX₇.isList) lY.isList (StrsAre.take' (StrsAre.drop' iR₃ k) 1) (.cons x tx .nil) (fun y hy => sok y (List.mem_of_mem_drop (List.mem_of_mem_take hy))) (fun y hy => by rw [List.mem_singleton.mp hy]; exact hx5) (by have := ok.hu; omega) (wpAny_truthy_bool ?_)
    have ls₈ := ls₆.g q₈
    have q₈' : Goes (WL L ++ [R]) s₃ s₈ := (q₆.mono (fun _ q => List.mem_append_left _ q)).trans q₈.any
    have lR₈ := q₈.kb.plain lR₆ (by simp)
    by_cases hq : (row.drop k).take 1 = [x]
    · rw [decide_eq_true hq]
      show wpAny _ _ (execs _ _) _ _ _
      refine wpAny_execs_nil (wpAny_execs_nil ⟨q₈', _, row, rv, ls₈, sm₆, lR₈, iR₃, hr, fun y => ?_, by omega⟩)
      have hxr : x ∈ row := List.mem_of_getElem? (one_is.mp hq)
      rw [hm y, htk, List.mem_append, List.mem_singleton]
      exact ⟨.inl, fun e => e.elim id fun e => e ▸ (hm x).mp hxr⟩
    · rw [decide_eq_false hq]
      show wpAny _ _ (execs _ _) _ _ _
      have hxr : x ∉ row := fun e => hq (one_is.mpr (bis_mem hr hb e))
      have sc₈ := (G₃.locs hWR0 q₈').sc sc
      refine wpAny_execs_cons (wpAny_Expr (wpAny_Call_Name_kw ?_) (by kernel_rfl) (by kernel_rfl))
      refine nmG sc₈ (v := .ref 37) (by simp [gl]) ?_ ?_ ?_ ?_ ?_
      refine callWith_def_kw (o := { cls := .type "function", data := .func (fd 37) }) rfl (evalArgs_kw2 (by kernel_rfl) (wpAny_items_cons ?_ (by kernel_rfl)) (by kernel_rfl))
      refine rdC (c := L + 5) ls₈ (by kernel_rfl) nR₂ ?_ ?_ ?_
      refine wpAny_items_cons ?_ (by kernel_rfl)
      refine rdL ls₈ nn₆ ?_ ?_ ?_
      refine wpAny_items_nil ?_
      refine kwAll_cons ?_
      refine nmG sc₈ (v := .ref 21) (by simp [gl]) ?_ ?_ ?_ ?_ ?_
      refine kwAll_nil ⟨sc₈.K _ _ lk37, ?_⟩
      refine ins_ctr sc₈ (ok.mono (by decide)) lR₈ iR₃ (by omega) hr fun s₉ k' g₉ hb' lR₉ => ?_
      refine wpAny_execs_nil (wpAny_execs_nil ⟨q₈'.trans (g₉.mono (by simp)), _, row.take k' ++ x :: row.drop k', _, ls₈.keep g₉.kb (by simpa using nRW), sm₆, lR₉, StrsAre.append' (StrsAre.take' iR₃ k') (.cons x tx (StrsAre.drop' iR₃ k')), bis_new hr hb' hxr, fun y => ?_, ?_⟩)
      · rw [ins_mem, hm y, htk, List.mem_append, List.mem_singleton]
      · have := hb'.le
        simp
        omega
      all_goals walk_at "sd"
    all_goals walk_at "sd"
  · rintro s₃ ⟨m₃, row, rv, ls₃, sm₃, lR₃, iR₃, hr, hm, hl⟩ g₃
    rw [List.size_toArray] at hm hl
    rw [List.take_of_length_le (by omega)] at hm
    have kS : ∀ {b : Addr} {ss : List Str}, SL s.heap b ss → SL s₃.heap b ss := fun {b ss} x => (x.w ls q₂).keep g₃.kb (avoid (x.notW ls) (x.ne hR))
    have kI : ∀ {b : Addr} {ss : List Int}, IL s.heap b ss → IL s₃.heap b ss := fun {b ss} x => (x.w ls q₂).keep g₃.kb (avoid (x.notW ls) (x.ne hR))
    exact seg8 sc ok hW (G₂.locs hWR0 g₃) ls₃ hL h5 hr hm (by omega) nA₂ (kI lA) hns (sm₃.get (by decide +kernel) nW) (kS lW) (sm₃.get (by decide +kernel) nZ) (kI lZ) nN₂ (kS lN) nP₂ (kS lP) nR₂ ⟨rv, lR₃.isList, iR₃⟩ h
end
end Mine
end

section
open PySem PySem.W PyProof.Rows PySem.Calls PySem.Spec
set_option Elab.async false
set_option maxRecDepth 100000
set_option maxHeartbeats 4000000
namespace Mine
local macro_rules | `(tactic| walk_at "sd") => `(tactic| first | kernel_rfl | decide | rfl)
/-- the names so far: the first one is None -/
def NmL (h : Heap) (N : Addr) (rwi : List Str) : Prop :=
  ∃ nv : List Value, h.IsList N nv.toArray ∧ nv.length = (plR rwi).length ∧ (∀ (j : Nat) (v : Value), nv[j]? = some v → ∃ x, (plR rwi)[j]? = some x ∧ ((v = .none ∧ x = ("C" : Str)) ∨ ∃ u, v = .str x u)) ∧ (0 < rwi.length → StrsAre nv (plR rwi))
section
variable {h h' : Heap} {b L : Addr} {rwi : List Str} {s s' : Shared} {W : List Addr} {m cm : Str → Option Value}
theorem NmL.keep (x : NmL h b rwi) (k : KB W h h') (n : b ∉ W) : NmL h' b rwi := let ⟨vs, a, c⟩ := x; ⟨vs, k.list a n, c⟩
theorem NmL.g (x : NmL s.heap b rwi) (g : Goes [] s s') : NmL s'.heap b rwi := x.keep g.kb (by simp)
theorem NmL.kf (x : NmL h b rwi) (k : KF h h') : NmL h' b rwi := let ⟨vs, a, c⟩ := x; ⟨vs, k.list a, c⟩
theorem NmL.w (x : NmL s.heap b rwi) (l : LS L s.heap m cm) (g : Goes (WL L) s s') : NmL s'.heap b rwi := x.keep g.kb (by obtain ⟨_, a, _⟩ := x; exact l.notW a)
end
section
variable {prog : Program} {w : World} {A : Around} {E : Value → Shared → Prop} {s s₀ : Shared} {L : Addr} {m cm : Str → Option Value}
theorem src_tuple {l : Addr} {items : Array Value} {s₀ s₁ : Shared} (hh : A.handled = none) (g : Goes [] s₀ s₁) (hl : s₁.heap.IsTuple l items) :
    wpAny (model prog w) A (pyIter (.ref l)) (Src prog w A s₀ items.size (fun i v => items[i]? = some v)) E s₁ := by
  refine wpAny_pyIter_tuple hl ⟨s₁.heap.objs.size, _, _, rfl, Walks.tuple hh s₁.heap.objs.size l ?_ items, g.trans (Goes.of (KB.push _)), src_new g, (fun i h st => by obtain ⟨o, e, _⟩ := st.1; exact ⟨o, e⟩), ⟨⟨_, Heap.get?_push_size _ rfl, rfl, rfl⟩, hl.push _⟩, ?_⟩
  · obtain ⟨o, e, _⟩ := hl; exact Nat.ne_of_lt (Heap.lt_size e)
  · intro b hb
    rcases List.mem_cons.mp hb with rfl | hb
    · exact ⟨_, Heap.get?_push_size _ rfl⟩
    · rw [List.mem_singleton.mp hb]
      obtain ⟨o, e, _⟩ := hl
      exact ⟨o, Heap.get?_push_of_some _ e⟩

/-- if names != plain: return False -/
theorem seg5 {Q : Flow → Shared → Prop} {a Wd Z N P : Addr} {ns : List Int} {rw : List Str} (sc : SC w s₀.heap) (ok : AOk A 20) (hW : ∀ b ∈ WL L, s₀.heap.get? b = none)
    (g : Goes [] s₀ s) (ls : LS L s.heap m cm) (hL : ∀ l ∈ rw, l ∈ letters) (h5 : rw.length ≤ 5)
    (nA : cm "script" = some (.ref a)) (lA : IL s.heap a ns) (hns : ns.length < 1000)
    (nW : m "word" = some (.ref Wd)) (lW : SL s.heap Wd rw.reverse) (nZ : m "sizes" = some (.ref Z)) (lZ : IL s.heap Z (natI (szR rw)))
    (nN : cm "names" = some (.ref N)) (lN : SL s.heap N (plR rw)) (nP : cm "plain" = some (.ref P)) (lP : SL s.heap P (plR rw))
    (h : ∀ s', Goes [] s₀ s' → Q (.ret (.bool true)) s') :
    wpAny (model prog w) A (execs ((bod 91).drop 5) (LE L)) Q E s := by
  refine wpAny_execs_cons (wpAny_If (wpAny_isTrue_Compare1 ?_ (by kernel_rfl)))
  refine rdC (c := L + 2) ls (by kernel_rfl) nN ?_ ?_ ?_
  refine rdC (c := L + 3) ls (by kernel_rfl) nP ?_ ?_ ?_
  obtain ⟨nv, hN, hNs⟩ := id lN
  obtain ⟨pv, hP, hPs⟩ := id lP
  have sok : ∀ x ∈ plR rw, PyData.strOk x = true := fun x hx => (plR_ok hL x hx).1
  refine neStrs hN hP hNs hPs sok sok (by have := ok.hu; omega) (wpAny_truthy_bool ?_)
  rw [decide_eq_true rfl]
  show wpAny _ _ (execs _ _) _ _ _
  refine wpAny_execs_nil ?_
  exact seg6 sc ok hW g ls hL h5 nA lA hns nW lW nZ lZ nN lN nP lP h
  all_goals walk_at "sd"

/-- for letter in word -/
theorem seg4 {Q : Flow → Shared → Prop} {a Wd Z N P : Addr} {ns : List Int} {ws : List Str} (sc : SC w s₀.heap) (ok : AOk A 20) (hW : ∀ b ∈ WL L, s₀.heap.get? b = none)
    (g : Goes [] s₀ s) (ls : LS L s.heap m cm) (hL : ∀ l ∈ ws, l ∈ letters) (h45 : ws.length = 4 ∨ ws.length = 5)
    (nA : cm "script" = some (.ref a)) (lA : IL s.heap a ns) (hns : ns.length < 1000)
    (nW : m "word" = some (.ref Wd)) (lW : SL s.heap Wd ws) (nZ : m "sizes" = some (.ref Z)) (lZ : IL s.heap Z (natI (szR [])))
    (nN : cm "names" = some (.ref N)) (lN : NmL s.heap N []) (nP : cm "plain" = some (.ref P)) (lP : SL s.heap P (plR []))
    (h : ∀ s', Goes [] s₀ s' → Q (.ret (.bool true)) s') :
    wpAny (model prog w) A (execs ((bod 91).drop 4) (LE L)) Q E s := by
  have hsl := sizeLine_eq
  obtain ⟨wv, hWv, hWs⟩ := id lW
  have hWl := StrsAre.length hWs
  refine wpAny_execs_cons (forList (l := Wd) (items := wv.toArray) (WL L)
    (fun i h => ∃ m' cm' N P Z, LS L h m' cm' ∧ Same ["sizes"] m m' ∧ Same ["letter", "names", "plain"] cm cm' ∧ cm' "names" = some (.ref N) ∧ cm' "plain" = some (.ref P) ∧ m' "sizes" = some (.ref Z) ∧
      NmL h N (ws.take i).reverse ∧ SL h P (plR (ws.take i).reverse) ∧ IL h Z (natI (szR (ws.take i).reverse)))
    ok.hh ?_ hWv (lW.notW ls) (fun b hb => ls.at hb) ⟨m, cm, N, P, Z, ls, Same.refl _ _, Same.refl _ _, nN, nP, nZ, lN, lP, lZ⟩
    (fun i h h' ⟨m', cm', N, P, Z, a, b, c, d, e, f, g1, g2, g3⟩ kf => ⟨m', cm', N, P, Z, a.kf kf, b, c, d, e, f, g1.kf kf, g2.kf kf, g3.kf kf⟩) ?_ ?_)
  · exact rdL ls nW ⟨rfl, Goes.refl _ _⟩ (by kernel_rfl) (by decide)
  · rintro i v s₃ E' hv ⟨m₃, cm₃, N, P, Z, ls₃, sm₃, sc₃', nN₃, nP₃, nZ₃, lN₃, lP₃, lZ₃⟩ g₃
    obtain ⟨l, tl, rfl, hl⟩ := StrsAre.at hWs (show wv[i]? = some v by simpa using hv)
    have hi : i < ws.length := (List.getElem?_eq_some_iff.mp hl).1
    have htk : (ws.take (i + 1)).reverse = l :: (ws.take i).reverse := by rw [List.take_add_one, hl]; simp
    have hlet := hL l (List.mem_of_getElem? hl)
    have hllen := (letter_len hlet).2.1
    rw [show l.cps.toList.length = l.length by simp [Str.length]] at hllen
    have hRl : ∀ x ∈ (ws.take i).reverse, x ∈ letters := fun x hx => hL x (List.mem_of_mem_take (List.mem_reverse.mp hx))
    have hRn : (ws.take i).reverse.length = i := by simp; omega
    rw [htk]
    generalize (ws.take i).reverse = rwi at lN₃ lP₃ lZ₃ hRl hRn ⊢
    have hi4 : i ≤ 4 := by omega
    have hpl := plR_length rwi
    have hszl := szR_length rwi
    have h16 : 2 ^ rwi.length ≤ 16 := by rw [hRn]; exact Nat.pow_le_pow_right (n := 2) (by decide) hi4
    have hok := plR_ok hRl
    have hdot : ((("." : Str))).length = 1 := by decide +kernel
    have G₃ : Goes [] s₀ s₃ := g.locs hW g₃
    -- letter
    refine LS.stC (c := L + 4) ls₃ (by kernel_rfl) (fun s₄ ls₄ g₄ => ?_) (by kernel_rfl)
    have nl₄ : up cm₃ "letter" (.str l tl) "letter" = some (.str l tl) := up_same
    have nN₄ : up cm₃ "letter" (.str l tl) "names" = some (.ref N) := up_else (by decide +kernel) nN₃
    have nP₄ : up cm₃ "letter" (.str l tl) "plain" = some (.ref P) := up_else (by decide +kernel) nP₃
    have sc₄' : Same ["letter", "names", "plain"] cm (up cm₃ "letter" (.str l tl)) := sc₃'.up (by decide +kernel)
    generalize up cm₃ "letter" (.str l tl) = cm₄ at ls₄ nl₄ nN₄ nP₄ sc₄'
    have lN₄ := lN₃.w ls₃ g₄
    have lP₄ := lP₃.w ls₃ g₄
    have lZ₄ := lZ₃.w ls₃ g₄
    have G₄ : Goes [] s₀ s₄ := G₃.locs hW g₄
    have sc₄ := G₄.sc sc
    -- names
    obtain ⟨nv, hN, hNl, hNa, hNs⟩ := id lN₄
    refine wpAny_execs_cons (wpAny_Assign_Name (compE2 (n := 2) (P := fun i v => (#[Value.none, Value.str l tl] : Array Value)[i]? = some v) (l := N) (items := nv.toArray) (cl := [("names", L + 2)])
      (fun i j ys => StrsAre ys ((plR (l :: rwi)).take (i * nv.length + j)))
      (by kernel_rfl) (by decide +kernel) (by kernel_rfl) (by decide +kernel) (by kernel_rfl) (by kernel_rfl) (by decide +kernel) ok.hh (by rw [List.size_toArray]; omega) hN ?_ ?_ ?_ ?_ ?_ ?_ (by intro _; kernel_rfl) (by intro _ _; kernel_rfl)) (by kernel_rfl))
    · refine Tuple_ (wpAny_items_cons (wpAny_Constant_none (wpAny_items_cons ?_ ?_)) ?_)
      refine rdC (c := L + 4) ls₄ (by kernel_rfl) nl₄ ?_ ?_ ?_
      refine wpAny_items_nil (newTupleP (vs := [.none, .str l tl]) (fun s₅ T hT lT g₅ => ?_) (by simp; omega))
      exact src_tuple ok.hh g₅ lT
      all_goals walk_at "sd"
    · rintro C i' v s₅ m₅ E'' hi' hP hn₅ hm₅ g₅
      exact rdF (c := L + 2) (ls₄.g g₅) (by kernel_rfl) (by kernel_rfl) nN₄ ⟨rfl, Goes.refl _ _⟩ (by kernel_rfl) (by kernel_rfl) (by decide)
    · simp; exact .nil
    · intro i' ys hi' hj
      rw [List.size_toArray] at hj
      have : (i' + 1) * nv.length + 0 = i' * nv.length + nv.length := by rw [Nat.succ_mul]; omega
      rw [this]; exact hj
    · rintro C i' j v0 v1 ys s₅ m₅ E'' hi' hP0 hP1 hj hn₅ hm0 hm1 g₅
      have hP1' : nv[j]? = some v1 := by simpa using hP1
      have hjl := (List.getElem?_eq_some_iff.mp hP1').1
      obtain ⟨x, hx, hxv⟩ := hNa j v1 hP1'
      have hxl := (hok x (List.mem_of_getElem? hx)).2
      have sc₅ := g₅.sc sc₄
      have ls₅ := ls₄.g g₅
      have key : ∃ r, (plR (l :: rwi))[i' * nv.length + j]? = some r ∧ ((v0 = .none ∧ r = x) ∨ ∃ y u, v0 = .str y u ∧ r = x ++ ("." : Str) ++ y ∧ x.length + 1 + y.length ≤ sizeLine) := by
        rcases i' with _ | _ | i'
        · refine ⟨x, ?_, .inl ⟨?_, rfl⟩⟩
          · rw [Nat.zero_mul, Nat.zero_add]
            rw [show plR (l :: rwi) = plR rwi ++ (plR rwi).map fun t => t ++ ("." : Str) ++ l from rfl, List.getElem?_append_left (by omega)]
            exact hx
          · simpa using hP0.symm
        · refine ⟨x ++ ("." : Str) ++ l, ?_, .inr ⟨l, tl, ?_, rfl, by omega⟩⟩
          · rw [Nat.zero_add, Nat.one_mul, hNl]
            rw [show plR (l :: rwi) = plR rwi ++ (plR rwi).map fun t => t ++ ("." : Str) ++ l from rfl, List.getElem?_append_right (by omega), Nat.add_sub_cancel_left, List.getElem?_map, hx]
            rfl
          · simpa using hP0.symm
        · omega
      obtain ⟨r, hr, h2⟩ := key
      refine Call_ ?_ (by kernel_rfl)
      refine nmG sc₅ (v := .ref 28) (by simp [gl]) ?_ ?_ ?_ ?_ ?_
      refine callWith_def (o := { cls := .type "function", data := .func (fd 28) }) rfl (wpAny_items_cons (Tuple_ (wpAny_items_cons ?_ ?_)) (by kernel_rfl)) (by kernel_rfl)
      refine nmL hn₅ hm1 ?_ ?_ ?_ ?_
      refine wpAny_items_cons ?_ ?_
      refine nmL hn₅ hm0 ?_ ?_ ?_ ?_
      refine wpAny_items_nil (newTupleP (vs := [v1, v0]) (fun s₆ T hT lT g₆ => ?_) (by simp; omega))
      have sc₆ := g₆.sc sc₅
      refine wpAny_items_nil ⟨sc₆.K _ _ lk28, ?_⟩
      refine bln_ctr (x := x) (r := r) sc₆ (ok.mono (by decide)) lT hxv h2 fun s₇ tk g₇ => ?_
      refine ⟨g₆.trans g₇, ?_⟩
      rw [← Nat.add_assoc, List.take_add_one, hr]
      exact StrsAre.append' hj (.cons r tk .nil)
      all_goals walk_at "sd"
    rintro N' s₅ ys hN' lN' jN g₅
    rw [show 2 * nv.length + 0 = (plR (l :: rwi)).length by rw [plR_length, List.length_cons, Nat.pow_succ]; omega, List.take_length] at jN
    refine LS.stC (c := L + 2) (ls₄.g g₅) (by kernel_rfl) (fun s₆ ls₆ g₆ => ?_) (by kernel_rfl)
    have nl₆ : up cm₄ "names" (.ref N') "letter" = some (.str l tl) := up_else (by decide +kernel) nl₄
    have nN₆ : up cm₄ "names" (.ref N') "names" = some (.ref N') := up_same
    have nP₆ : up cm₄ "names" (.ref N') "plain" = some (.ref P) := up_else (by decide +kernel) nP₄
    have sc₆' : Same ["letter", "names", "plain"] cm (up cm₄ "names" (.ref N')) := sc₄'.up (by decide +kernel)
    generalize up cm₄ "names" (.ref N') = cm₆ at ls₆ nl₆ nN₆ nP₆ sc₆'
    have ls₅ := ls₄.g g₅
    have lN₆ : SL s₆.heap N' (plR (l :: rwi)) := SL.w ⟨ys, lN'.isList, jN⟩ ls₅ g₆
    have lP₆ := (lP₄.g g₅).w ls₅ g₆
    have lZ₆ := (lZ₄.g g₅).w ls₅ g₆
    have G₆ : Goes [] s₀ s₆ := (G₄.trans g₅).locs hW g₆
    have q₆ : Goes (WL L) s₃ s₆ := (g₄.trans g₅.any).trans g₆
    -- plain
    obtain ⟨pv, hP, hPs⟩ := id lP₆
    have hPl := StrsAre.length hPs
    refine wpAny_execs_cons (wpAny_Assign_Name (wpAny_BinOp ?_) (by kernel_rfl))
    refine rdC (c := L + 3) ls₆ (by kernel_rfl) nP₆ ?_ ?_ ?_
    refine compE (n := pv.toArray.size) (P := fun i v => pv.toArray[i]? = some v) (cl := [("letter", L + 4)])
      (fun _ _ _ k ys _ => StrsAre ys (((plR rwi).take k).map fun t => t ++ ("." : Str) ++ l))
      (by kernel_rfl) (by decide +kernel) (by kernel_rfl) (by decide +kernel) (by kernel_rfl) (by rw [List.size_toArray]; omega) ?_ (fun _ _ _ _ => .nil) (fun _ _ _ _ _ _ _ j _ => j) ?_ ?_ (by intro _; kernel_rfl)
    · refine rdC (c := L + 3) ls₆ (by kernel_rfl) nP₆ ?_ ?_ ?_
      exact src_list ok.hh (Goes.refl _ _) hP
      all_goals walk_at "sd"
    · rintro D C I k v ys' s₇ m₇ E'' hk hPk jk hn₇ hm₇ g₇ _ _
      obtain ⟨x, tx, rfl, hx⟩ := StrsAre.at hPs (show pv[k]? = some v by simpa using hPk)
      have hxl := (hok x (List.mem_of_getElem? hx)).2
      have ls₇ := ls₆.g g₇
      refine wpAny_tests_nil ⟨Goes.refl _ _, ?_⟩
      simp only [if_true]
      refine wpAny_BinOp (wpAny_BinOp ?_)
      refine nmL hn₇ hm₇ ?_ ?_ ?_ ?_
      refine wpAny_Constant_str (add_str (fun t' tk' => ?_) (by omega))
      refine rdF (c := L + 4) ls₇ (by kernel_rfl) (by kernel_rfl) nl₆ ?_ ?_ ?_ ?_
      refine add_str (fun t'' tk'' => ?_) (by rw [Str.length_append, hdot]; omega)
      refine ⟨Goes.of (KB.refl _ _), ?_⟩
      rw [List.take_add_one, hx, List.map_append]
      exact StrsAre.append' jk (.cons _ _ .nil)
      all_goals walk_at "sd"
    rintro D C I s₇ ys' hD lD jD g₇
    rw [List.size_toArray, hPl, List.take_length] at jD
    have hjDl := StrsAre.length jD
    rw [List.length_map] at hjDl
    refine addP (g₇.list hP) lD.isList (fun s₈ P' hP' lP' g₈ => ?_) (by omega)
    have q₈ := g₇.trans g₈
    have ls₈ := ls₆.g q₈
    refine LS.stC (c := L + 3) ls₈ (by kernel_rfl) (fun s₉ ls₉ g₉ => ?_) (by kernel_rfl)
    have nN₉ : up cm₆ "plain" (.ref P') "names" = some (.ref N') := up_else (by decide +kernel) nN₆
    have nP₉ : up cm₆ "plain" (.ref P') "plain" = some (.ref P') := up_same
    have sc₉' : Same ["letter", "names", "plain"] cm (up cm₆ "plain" (.ref P')) := sc₆'.up (by decide +kernel)
    generalize up cm₆ "plain" (.ref P') = cm₉ at ls₉ nN₉ nP₉ sc₉'
    have lP₉ : SL s₉.heap P' (plR (l :: rwi)) := SL.w ⟨_, lP'.isList, StrsAre.append' hPs jD⟩ ls₈ g₉
    have lN₉ := (lN₆.g q₈).w ls₈ g₉
    have lZ₉ := (lZ₆.g q₈).w ls₈ g₉
    have q₉ : Goes (WL L) s₃ s₉ := (q₆.trans q₈.any).trans g₉
    -- sizes
    obtain ⟨zv, hZ, hZi⟩ := id lZ₉
    have hZl := hZi.length
    rw [show (natI (szR rwi)).length = (szR rwi).length by simp [natI]] at hZl
    refine wpAny_execs_cons (wpAny_Assign_Name (wpAny_BinOp ?_) (by kernel_rfl))
    refine rdL ls₉ nZ₃ ?_ ?_ ?_
    refine compE (n := zv.toArray.size) (P := fun i v => zv.toArray[i]? = some v) (cl := [])
      (fun _ _ _ k ys _ => IntsAre ys (natI (((szR rwi).take k).map fun t => t + 1)))
      (by kernel_rfl) (by decide +kernel) (by kernel_rfl) (by decide +kernel) (by kernel_rfl) (by rw [List.size_toArray]; omega) ?_ (fun _ _ _ _ => .nil) (fun _ _ _ _ _ _ _ j _ => j) ?_ ?_ (by intro _; kernel_rfl)
    · refine rdL ls₉ nZ₃ ?_ ?_ ?_
      exact src_list ok.hh (Goes.refl _ _) hZ
      all_goals walk_at "sd"
    · rintro D' C' I' k v ys'' s₁₀ m₁₀ E'' hk hPk jk hn₁₀ hm₁₀ g₁₀ _ _
      obtain ⟨y, ty, rfl, hy⟩ := nat_at hZi (show zv[k]? = some v by simpa using hPk)
      refine wpAny_tests_nil ⟨Goes.refl _ _, ?_⟩
      simp only [if_true]
      refine wpAny_BinOp ?_
      refine nmL hn₁₀ hm₁₀ ?_ ?_ ?_ ?_
      refine wpAny_Constant_int (add_int ?_)
      refine ⟨Goes.of (KB.refl _ _), ?_⟩
      rw [List.take_add_one, hy, List.map_append]
      have := IntsAre.append jk (.cons (((y + 1 : Nat)) : Int) (s₁₀.toks + 1) .nil)
      simpa [natI] using this
      all_goals walk_at "sd"
    rintro D' C' I' s₁₀ ys'' hD' lD' jD' g₁₀
    rw [List.size_toArray, hZl, List.take_length] at jD'
    have hjDl' := jD'.length
    rw [show (natI ((szR rwi).map fun t => t + 1)).length = (szR rwi).length by simp [natI]] at hjDl'
    refine addP (g₁₀.list hZ) lD'.isList (fun s₁₁ Z' hZ' lZ' g₁₁ => ?_) (by omega)
    have q₁₁ := g₁₀.trans g₁₁
    have ls₁₁ := ls₉.g q₁₁
    refine LS.stL ls₁₁ (fun s₁₂ ls₁₂ g₁₂ => ?_) (by kernel_rfl)
    have hZfin : IntsAre (zv ++ ys'') (natI (szR (l :: rwi))) := by
      have := IntsAre.append hZi jD'
      simpa [natI, szR] using this
    have lN₁₂ := (lN₉.g q₁₁).w ls₁₁ g₁₂
    refine wpAny_execs_nil ⟨(q₉.trans q₁₁.any).trans g₁₂, _, cm₉, N', P', Z', ls₁₂, sm₃.up (by decide +kernel), sc₉', nN₉, nP₉, up_same, ?_, (lP₉.g q₁₁).w ls₁₁ g₁₂, IL.w ⟨_, lZ'.isList, hZfin⟩ ls₁₁ g₁₂⟩
    obtain ⟨nv', hn1, hn2⟩ := lN₁₂
    refine ⟨nv', hn1, StrsAre.length hn2, fun j v hv => ?_, fun _ => hn2⟩
    obtain ⟨x, tx, rfl, hx⟩ := StrsAre.at hn2 hv
    exact ⟨x, hx, .inr ⟨tx, rfl⟩⟩
    all_goals walk_at "sd"
  · rintro s₃ ⟨m₃, cm₃, N, P, Z, ls₃, sm₃, sc₃', nN₃, nP₃, nZ₃, lN₃, lP₃, lZ₃⟩ g₃
    rw [List.size_toArray, hWl, List.take_length] at lN₃ lP₃ lZ₃
    have lN₄ : SL s₃.heap N (plR ws.reverse) := by
      obtain ⟨nv, a, _, _, c⟩ := lN₃
      exact ⟨nv, a, c (by simp; omega)⟩
    exact seg5 (rw := ws.reverse) sc ok hW (g.locs hW g₃) ls₃ (fun x hx => hL x (List.mem_reverse.mp hx)) (by simp; omega) (sc₃'.get (by decide +kernel) nA) (lA.w ls g₃) hns (sm₃.get (by decide +kernel) nW)
      (by rw [List.reverse_reverse]; exact lW.w ls g₃) nZ₃ lZ₃ nN₃ lN₄ nP₃ lP₃ h

theorem noneNames : ∀ (j : Nat) (v : Value), ([Value.none] : List Value)[j]? = some v → ∃ x, (plR [])[j]? = some x ∧ ((v = .none ∧ x = ("C" : Str)) ∨ ∃ u, v = .str x u) := by
  intro j v hv
  cases j with
  | zero =>
    refine ⟨"C", rfl, .inl ⟨?_, rfl⟩⟩
    simpa using hv.symm
  | succ j => simp at hv
/-- the whole body -/
theorem seg0 {Q : Flow → Shared → Prop} {a : Addr} {ns : List Int} (sc : SC w s₀.heap) (ok : AOk A 20) (hW : ∀ b ∈ WL L, s₀.heap.get? b = none)
    (g : Goes [] s₀ s) (ls : LS L s.heap m cm) (nA : cm "script" = some (.ref a)) (lA : IL s.heap a ns) (hns : ns.length ≤ 100)
    (h : ∀ s', Goes [] s₀ s' → Q (.ret (.bool true)) s') :
    wpAny (model prog w) A (execs (bod 91) (LE L)) Q E s := by
  have hsl := sizeLine_eq
  have sc₁ := g.sc sc
  obtain ⟨av, hA, hAi⟩ := id lA
  refine wpAny_execs_cons (wpAny_Assign_Name (Call_ ?_ (by kernel_rfl)) (by kernel_rfl))
  refine nmG sc₁ (v := .ref 72) (by simp [gl]) ?_ ?_ ?_ ?_ ?_
  refine callWith_def (o := { cls := .type "function", data := .func (fd 72) }) rfl (wpAny_items_cons ?_ (by kernel_rfl)) (by kernel_rfl)
  refine rdC (c := L + 1) ls (by kernel_rfl) nA ?_ ?_ ?_
  refine wpAny_items_nil ⟨sc₁.K _ _ lk72, ?_⟩
  refine word_ctr sc₁ (ok.mono (by decide)) hA hAi hns fun s₂ Wd ws wv g₂ lWd hWs hwl h45 => ?_
  refine LS.stL (ls.g g₂) (fun s₃ ls₃ g₃ => ?_) ?_
  have nW₃ : up m "word" (.ref Wd) "word" = some (.ref Wd) := up_same
  generalize up m "word" (.ref Wd) = m₃ at ls₃ nW₃
  have lW₃ : SL s₃.heap Wd ws := SL.w ⟨wv, lWd.isList, hWs⟩ (ls.g g₂) g₃
  have lA₃ := (lA.g g₂).w (ls.g g₂) g₃
  have G₃ : Goes [] s₀ s₃ := (g.trans g₂).locs hW g₃
  -- names = [None]
  refine wpAny_execs_cons (wpAny_Assign_Name (List_ (wpAny_items_cons (wpAny_Constant_none (wpAny_items_nil (newListP (vs := [.none]) (fun s₄ N hN lN g₄ => ?_) (by simp; omega)))) (by kernel_rfl))) (by kernel_rfl))
  have ls₄ := ls₃.g g₄
  refine LS.stC (c := L + 2) ls₄ (by kernel_rfl) (fun s₅ ls₅ g₅ => ?_) ?_
  have nN₅ : up cm "names" (.ref N) "names" = some (.ref N) := up_same
  have nA₅ : up cm "names" (.ref N) "script" = some (.ref a) := up_else (by decide +kernel) nA
  generalize up cm "names" (.ref N) = cm₅ at ls₅ nN₅ nA₅
  have lW₅ := (lW₃.g g₄).w ls₄ g₅
  have lA₅ := (lA₃.g g₄).w ls₄ g₅
  have lN₅ := g₅.kb.list lN.isList (ls₄.notW lN.isList)
  have G₅ : Goes [] s₀ s₅ := (G₃.trans g₄).locs hW g₅
  -- plain = ['C']
  refine wpAny_execs_cons (wpAny_Assign_Name (List_ (wpAny_items_cons (wpAny_Constant_str (wpAny_items_nil (newListP (fun s₆ P hP lP g₆ => ?_) (by simp; omega)))) (by kernel_rfl))) (by kernel_rfl))
  replace g₆ : Goes [] s₅ s₆ := Goes.trans (Goes.of (KB.refl _ _)) g₆
  have ls₆ := ls₅.g g₆
  obtain ⟨pv, lP, hPs⟩ : ∃ pv : List Value, s₆.heap.PlainList P pv.toArray ∧ StrsAre pv (plR []) := ⟨_, lP, .cons _ _ .nil⟩
  refine LS.stC (c := L + 3) ls₆ (by kernel_rfl) (fun s₇ ls₇ g₇ => ?_) ?_
  have nP₇ : up cm₅ "plain" (.ref P) "plain" = some (.ref P) := up_same
  have nN₇ : up cm₅ "plain" (.ref P) "names" = some (.ref N) := up_else (by decide +kernel) nN₅
  have nA₇ : up cm₅ "plain" (.ref P) "script" = some (.ref a) := up_else (by decide +kernel) nA₅
  generalize up cm₅ "plain" (.ref P) = cm₇ at ls₇ nP₇ nN₇ nA₇
  have lW₇ := (lW₅.g g₆).w ls₆ g₇
  have lA₇ := (lA₅.g g₆).w ls₆ g₇
  have lN₆ := g₆.list lN₅
  have lN₇ := g₇.kb.list lN₆ (ls₆.notW lN₆)
  have lP₇ : SL s₇.heap P (plR []) := SL.w ⟨pv, lP.isList, hPs⟩ ls₆ g₇
  have G₇ : Goes [] s₀ s₇ := (G₅.trans g₆).locs hW g₇
  -- sizes = [0]
  refine wpAny_execs_cons (wpAny_Assign_Name (List_ (wpAny_items_cons (wpAny_Constant_int (wpAny_items_nil (newListP (fun s₈ Z hZ lZ g₈ => ?_) (by simp; omega)))) (by kernel_rfl))) (by kernel_rfl))
  replace g₈ : Goes [] s₇ s₈ := Goes.trans (Goes.of (KB.refl _ _)) g₈
  have ls₈ := ls₇.g g₈
  obtain ⟨zv, lZ, hZi⟩ : ∃ zv : List Value, s₈.heap.PlainList Z zv.toArray ∧ IntsAre zv (natI (szR [])) := ⟨_, lZ, .cons _ _ .nil⟩
  refine LS.stL ls₈ (fun s₉ ls₉ g₉ => ?_) (by kernel_rfl)
  have lN₈ := g₈.list lN₇
  refine seg4 sc ok hW ((G₇.trans g₈).locs hW g₉) ls₉ hwl h45 nA₇ ((lA₇.g g₈).w ls₈ g₉) (by omega) (up_else (by decide +kernel) nW₃) ((lW₇.g g₈).w ls₈ g₉) up_same (IL.w ⟨zv, lZ.isList, hZi⟩ ls₈ g₉)
    nN₇ ⟨[.none], g₉.kb.list lN₈ (ls₈.notW lN₈), rfl, noneNames, fun q => absurd q (Nat.lt_irrefl _)⟩ nP₇ ((lP₇.g g₈).w ls₈ g₉) h
  all_goals walk_at "sd"
end
end Mine
end

section
open PySem PySem.W PyProof.Rows PySem.Calls
set_option Elab.async false
set_option maxRecDepth 100000
set_option maxHeartbeats 4000000
namespace Mine
theorem sc_top {w : World} {h : Heap} {mg mb : Str → Option Value} (KX : (KK w).In h) (Tg : h.Ns mainGlobals mg) (Tb : h.Ns builtinsNs mb) (nl : h.NoLimit) (bu : ∀ x : Str, x ≠ "__name__" → mb x = bootBuiltins x) : SC w h := by
  refine ⟨KX, nl, ⟨mg, Tg, fun p hp => ?_⟩, ⟨mb, Tb, fun p hp => ?_⟩⟩
  · simp only [gl, List.mem_cons, List.not_mem_nil, or_false] at hp
    rcases hp with rfl | rfl | rfl | rfl | rfl | rfl | rfl | rfl | rfl | rfl | rfl | rfl | rfl | rfl | rfl
    · exact mg_of KX Tg (by kernel_rfl)
    · exact mg_of KX Tg (by kernel_rfl)
    · exact mg_of KX Tg (by kernel_rfl)
    · exact mg_of KX Tg (by kernel_rfl)
    · exact mg_of KX Tg (by kernel_rfl)
    · exact mg_of KX Tg (by kernel_rfl)
    · exact mg_of KX Tg (by kernel_rfl)
    · exact mg_of KX Tg (by kernel_rfl)
    · exact mg_of KX Tg (by kernel_rfl)
    · exact mg_of KX Tg (by kernel_rfl)
    · exact mg_none_of KX Tg (by kernel_rfl)
    · exact mg_none_of KX Tg (by kernel_rfl)
    · exact mg_none_of KX Tg (by kernel_rfl)
    · exact mg_none_of KX Tg (by kernel_rfl)
    · exact mg_none_of KX Tg (by kernel_rfl)
  · simp only [bl, List.mem_cons, List.not_mem_nil, or_false] at hp
    rcases hp with rfl | rfl | rfl | rfl | rfl
    · exact (bu _ (by decide +kernel)).trans (by kernel_rfl)
    · exact (bu _ (by decide +kernel)).trans (by kernel_rfl)
    · exact (bu _ (by decide +kernel)).trans (by kernel_rfl)
    · exact (bu _ (by decide +kernel)).trans (by kernel_rfl)
    · exact (bu _ (by decide +kernel)).trans (by kernel_rfl)

theorem callerOk21 : AOk callerA 21 := ⟨rfl, by decide +kernel, by decide +kernel⟩
theorem callerOk (L : Addr) : AOk (callerA.deeper (LE L)) 20 := callerOk21.deeper (LE L)

theorem topLaw {prog : Program} {w : World} {s₁ : Shared} {mg mb : Str → Option Value} {a fa : Addr} {vs : List Value} {ns : List Int} {R : Result → Shared → Prop} (KX : (KK w).In s₁.heap) (Tg : s₁.heap.Ns mainGlobals mg) (Tb : s₁.heap.Ns builtinsNs mb) (nl : s₁.heap.NoLimit)
    (bu : ∀ x : Str, x ≠ "__name__" → mb x = bootBuiltins x) (hL : s₁.heap.IsList a vs.toArray) (hI : IntsAre vs ns) (hlen : ¬ (63 : Int) < (ns.length : Int)) (hmg : mg "law" = some (.ref fa))
    (h : ∀ s', Goes [] s₁ s' → R (.ok (.ret (.bool true))) s') :
    codeAny (model prog w) callerA (.call (.ref fa) ⟨[.ref a], []⟩) R s₁ := by
  have sc := sc_top KX Tg Tb nl bu
  have e91 : mg "law" = some (.ref 91) := mg_of KX Tg (by kernel_rfl)
  have efa : fa = 91 := by
    rw [hmg] at e91
    cases e91; rfl
  subst efa
  refine codeAny_call_cells (fd := fd 91) (body := bod 91) (binds := [("script", .ref a)]) (by decide +kernel) (KX _ _ (lk91 w)) rfl nl (codeRec_of KX (cd91 w)) bo91 (by kernel_rfl) (by kernel_rfl) ?_ (fun s₂ X => ?_) (by kernel_rfl) (by kernel_rfl) (by kernel_rfl)
  · intro x hx
    rw [List.mem_singleton.mp hx]
    exact .inr ⟨by kernel_rfl, by kernel_rfl⟩
  · have hk := X.toInCall.keep
    obtain ⟨h', tk, e, _⟩ := X.done
    have g : Goes [] s₁ s₂ := by
      rw [e] at hk ⊢
      exact Goes.of (KB.of hk)
    have hf := X.toInCall.fresh
    have ls : LS s₁.heap.objs.size s₂.heap _ _ := ⟨X.toInCall.ns, fun p hp => X.cell p.1 p.2 ?_⟩
    · refine seg0 (a := a) (ns := ns) sc (callerOk _) (fun b hb => ?_) g ls (by kernel_rfl) (IL.g ⟨vs, hL, hI⟩ g) (by omega) fun s' g' => h s' g'
      cases e' : s₁.heap.get? b with
      | none => rfl
      | some o =>
        have hlt : b < s₁.heap.objs.size := Heap.lt_size e'
        simp only [WL, List.mem_cons, List.not_mem_nil, or_false] at hb
        have h0 : ∀ (n L b : Nat), b = L + n → b < L → False := fun n L b q1 q2 => by omega
        rcases hb with q | q | q | q | q | q | q | q
        · exact (h0 0 _ _ q hlt).elim
        · exact (h0 1 _ _ q hlt).elim
        · exact (h0 2 _ _ q hlt).elim
        · exact (h0 3 _ _ q hlt).elim
        · exact (h0 4 _ _ q hlt).elim
        · exact (h0 5 _ _ q hlt).elim
        · exact (h0 6 _ _ q hlt).elim
        · exact (h0 7 _ _ q hlt).elim
    · show (LE s₁.heap.objs.size).cells.lookup p.1 = some p.2
      rw [LE_cells]
      simp only [cellL, List.mem_cons, List.not_mem_nil, or_false] at hp
      rcases hp with rfl | rfl | rfl | rfl | rfl | rfl | rfl <;> kernel_rfl
end Mine
end

open PySem PySem.W PyProof.Rows PySem.Calls
set_option Elab.async false
set_option maxRecDepth 100000
set_option maxHeartbeats 8000000

theorem PySem.Challenge.cw_wu0017_01_holds : PySem.Challenge.rw_wu0017_01.Holds :=
  Mine.hd (by
  k_fill
  intro w s₀ s₁ mg mb G Y fa o pm cd doc dV kV ho hd hcd hD hmg hg args vals as hpre hlay hrd hwl hlo
  have KX := kIn_of Y
  refine Ground.open G ?_
  intro T B D TE TW
  try (refine guard_noD D (by decide +kernel) ?_; clear D)
  wrow_args hpre hlay hrd hwl hlo
  rename_i w₅ _ _ _ _ _ w₄ w₃ w₂ w₁ hL _ _ _ hI _ hc _
  refine enter_call ?_
  refine Mine.topLaw KX T.g T.b T.nolimit T.builtins hL hI hc hmg fun s' g => ?_
  obtain ⟨h', tk, rfl, kb⟩ := g
  exact GoodW.toG ⟨.inl ⟨.bool true, .bool true, [], rfl, fun _ => rfl, .bool true, by kernel_rfl, unshared_nil⟩, fun b o e => kb b o (by simp) e, rfl, hg⟩)
