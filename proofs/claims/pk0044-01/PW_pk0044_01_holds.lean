import PyProof.Rows.All
import Wide.All
import OpenK.AllK
import Wide.FinOn
import Lean
import PySem.Challenge.RW_pk0044_01
open PySem PySem.W PySem.W.X PyProof.Rows PySem.Calls
set_option Elab.async false
set_option maxRecDepth 100000
namespace Mine

def stAt (i : Nat) : Stmt := (Challenge.pw_pk0044_01.main.body)[i]?.getD (.Pass ⟨0, 0, 0, 0⟩)
def recOf : Stmt → DefRec
  | .FunctionDef n a b _ _ _ sc _ _ pos => ⟨n, a, b, sc, pos⟩
  | _ => ⟨"", ⟨[], [], none, [], [], none, []⟩, [], ⟨.function, [], false, false, []⟩, ⟨0, 0, 0, 0⟩⟩
def D (i : Nat) : DefRec := recOf (stAt i)

def IsFn (d : DefRec) (h : Heap) (f : Addr) : Prop :=
  ∃ o pm cd doc, h.get? f = some o ∧ o.data = .func (docDef d.name d.params d.body d.scope pm cd doc) ∧ h.CodeRec cd d.name
def Keeps (h h' : Heap) : Prop := ∀ b o, h.get? b = some o → h'.get? b = some o
theorem Keeps.refl (h : Heap) : Keeps h h := fun _ _ e => e
theorem Keeps.trans {a b c : Heap} (x : Keeps a b) (y : Keeps b c) : Keeps a c := fun _ _ e => y _ _ (x _ _ e)
theorem IsFn.keeps {d : DefRec} {h h' : Heap} {f : Addr} (x : IsFn d h f) (k : Keeps h h') : IsFn d h' f :=
  let ⟨o, pm, cd, doc, h1, h2, h3⟩ := x
  ⟨o, pm, cd, doc, k _ _ h1, h2, h3.keeps k⟩

def fnIdx : List Nat := [1, 3, 4, 6, 7, 9, 10, 11, 12, 13, 14]
def buNames : List Str := ["len", "range", "max", "isinstance", "sum", "enumerate", "list", "str", "bool", "int", "ValueError"]
structure Glb (mg mb : Str → Option Value) (h : Heap) : Prop where
  g : h.Ns mainGlobals mg
  b : h.Ns builtinsNs mb
  nolimit : h.NoLimit
  fn : ∀ i ∈ fnIdx, ∃ f, mg (D i).name = some (.ref f) ∧ IsFn (D i) h f
  cmax : ∃ t, mg "CHAR_MAX" = some (.int 127 t)
  bu : ∀ x ∈ buNames, mg x = none ∧ mb x = bootBuiltins x
theorem Glb.keeps {mg mb : Str → Option Value} {h h' : Heap} (G : Glb mg mb h) (k : Keeps h h') : Glb mg mb h' :=
  ⟨G.g.keeps k, G.b.keeps k, G.nolimit.keeps k, fun i hi => let ⟨f, a, b⟩ := G.fn i hi; ⟨f, a, b.keeps k⟩, G.cmax, G.bu⟩

/-- the locals: names and what they hold -/
def loc (N : List Str) (vs : List (Option Value)) : Str → Option Value := fun y => ((N.zip vs).lookup y).join

theorem loc_at {N : List Str} {vs : List (Option Value)} {i : Nat} {x : Str} {v : Option Value} (hN : N.Nodup) (hx : N[i]? = some x) (hv : vs[i]? = some v) : loc N vs x = v := by
  unfold loc
  induction N generalizing vs i with
  | nil => simp at hx
  | cons n N ih =>
    cases vs with
    | nil => simp at hv
    | cons u vs =>
      cases i with
      | zero =>
        simp only [List.getElem?_cons_zero, Option.some.injEq] at hx hv
        subst hx; subst hv
        simp [List.zip_cons_cons]
      | succ i =>
        simp only [List.getElem?_cons_succ] at hx hv
        have hne : ¬ x = n := by
          intro e
          subst e
          exact (List.nodup_cons.mp hN).1 (List.mem_of_getElem? hx)
        rw [List.zip_cons_cons, List.lookup_cons]
        have : (x == n) = false := by simpa using hne
        rw [this]
        exact ih (List.nodup_cons.mp hN).2 hx hv

theorem loc_set {N : List Str} {vs : List (Option Value)} {i : Nat} {x : Str} {v : Value} (hN : N.Nodup) (hl : vs.length = N.length) (hx : N[i]? = some x) :
    (fun y => if y = x then some v else loc N vs y) = loc N (vs.set i (some v)) := by
  funext y
  unfold loc
  induction N generalizing vs i with
  | nil => simp at hx
  | cons n N ih =>
    cases vs with
    | nil => simp at hl
    | cons u vs =>
      cases i with
      | zero =>
        simp only [List.getElem?_cons_zero, Option.some.injEq] at hx
        subst hx
        simp only [List.set_cons_zero, List.zip_cons_cons, List.lookup_cons]
        by_cases e : y = n
        · subst e; simp
        · have : (y == n) = false := by simpa using e
          simp [this, e]
      | succ i =>
        simp only [List.getElem?_cons_succ] at hx
        simp only [List.set_cons_succ, List.zip_cons_cons, List.lookup_cons]
        have hne : ¬ x = n := by
          intro e
          subst e
          exact (List.nodup_cons.mp hN).1 (List.mem_of_getElem? hx)
        by_cases e : y = n
        · subst e
          have : ¬ y = x := fun q => hne q.symm
          simp [this]
        · have e' : (y == n) = false := by simpa using e
          simp only [e']
          exact ih (vs := vs) (i := i) (List.nodup_cons.mp hN).2 (by simpa using hl) hx

/-- the frame and what the call has made: all addresses differ -/
structure Led (h₀ : Heap) (L : Addr) (m : Str → Option Value) (h : Heap) (news : List (Addr × Obj)) : Prop where
  fr : Fr h₀ L h m
  nw : News h₀ L h news
  nd : (news.map (·.1)).Nodup
theorem lkeeps {h₀ h h' : Heap} {L : Addr} {m : Str → Option Value} {news : List (Addr × Obj)} (S : Led h₀ L m h news) (k : Keeps h h') : Led h₀ L m h' news :=
  ⟨⟨S.fr.ns.keeps k, fun b o e => k _ _ (S.fr.keep b o e), S.fr.above⟩, fun p hp => ⟨k _ _ (S.nw p hp).1, (S.nw p hp).2⟩, S.nd⟩
abbrev NoE : Value → Shared → Prop := fun _ _ => False

/-- what a def's text says of its names -/
structure Cx (d : DefRec) (N G : List Str) : Prop where
  kind : d.scope.kind = .function
  loc : ∀ x ∈ N, d.scope.names.lookup x = some .local ∧ (x == ("__debug__" : Str)) = false
  glo : ∀ x ∈ G, d.scope.names.lookup x = some .globalImplicit ∧ (x == ("__debug__" : Str)) = false
  nd : N.Nodup
def cxB (d : DefRec) (N G : List Str) : Bool :=
  decide (d.scope.kind = .function) && N.all (fun x => decide (d.scope.names.lookup x = some .local) && !(x == ("__debug__" : Str))) &&
    G.all (fun x => decide (d.scope.names.lookup x = some .globalImplicit) && !(x == ("__debug__" : Str))) && decide N.Nodup
theorem Cx.of {d : DefRec} {N G : List Str} (e : cxB d N G = true) : Cx d N G := by
  unfold cxB at e
  simp only [Bool.and_eq_true, decide_eq_true_eq, List.all_eq_true, Bool.not_eq_true'] at e
  exact ⟨e.1.1.1, e.1.1.2, e.1.2, e.2⟩

section
variable {prog : Program} {w : World} {A : Around} {h₀ h : Heap} {g : Array GenState} {dr : Drawn} {t : Nat} {os : OsState} {L f : Addr} {cd : Value} {d : DefRec} {N G : List Str}
  {vs : List (Option Value)} {news : List (Addr × Obj)} {mg mb : Str → Option Value} {x : Str} {pos : Pos} {E : Value → Shared → Prop}

theorem r_ld {Q : Value → Shared → Prop} {v : Value} (cx : Cx d N G) (S : Led h₀ L (loc N vs) h news) (i : Nat) (hx : N[i]? = some x) (hv : vs[i]? = some (some v)) (k : Q v ⟨h, g, dr, t, os⟩) :
    wpAny (model prog w) A (eval (.Name x pos) (envOf d.name d.scope L f cd)) Q E ⟨h, g, dr, t, os⟩ :=
  ld S.fr (loc_at cx.nd hx hv) k cx.kind (cx.loc x (List.mem_of_getElem? hx)).1 (cx.loc x (List.mem_of_getElem? hx)).2

theorem r_st {Q : Unit → Shared → Prop} {v : Value} (cx : Cx d N G) (S : Led h₀ L (loc N vs) h news) (i : Nat) (hx : N[i]? = some x) (hl : vs.length = N.length)
    (k : ∀ h' t', Led h₀ L (loc N (vs.set i (some v))) h' news → Q () ⟨h', g, dr, t', os⟩) :
    wpAny (model prog w) A (storeName (envOf d.name d.scope L f cd) x v) Q E ⟨h, g, dr, t, os⟩ :=
  stN S.fr S.nw (fun h' F N' => k h' _ ⟨loc_set cx.nd hl hx ▸ F, N', S.nd⟩) cx.kind (cx.loc x (List.mem_of_getElem? hx)).1

theorem r_fn {Q : Value → Shared → Prop} (cx : Cx d N G) (S : Led h₀ L (loc N vs) h news) (Gb : Glb mg mb h₀) (i : Nat) (hi : i ∈ fnIdx) (hn : (D i).name = x) (hx : x ∈ G) (k : ∀ b, IsFn (D i) h₀ b → Q (.ref b) ⟨h, g, dr, t, os⟩) :
    wpAny (model prog w) A (eval (.Name x pos) (envOf d.name d.scope L f cd)) Q E ⟨h, g, dr, t, os⟩ := by
  obtain ⟨b, h1, h2⟩ := Gb.fn i hi
  exact ld_global_at S.fr Gb.g (hn ▸ h1) (k b h2) cx.kind (cx.glo x hx).1 (cx.glo x hx).2
theorem r_bu {Q : Value → Shared → Prop} {v : Value} (cx : Cx d N G) (S : Led h₀ L (loc N vs) h news) (Gb : Glb mg mb h₀) (hb : x ∈ buNames) (hx : x ∈ G) (hv : bootBuiltins x = some v) (k : Q v ⟨h, g, dr, t, os⟩) :
    wpAny (model prog w) A (eval (.Name x pos) (envOf d.name d.scope L f cd)) Q E ⟨h, g, dr, t, os⟩ :=
  ld_builtin_at S.fr Gb.g (Gb.bu x hb).1 Gb.b ((Gb.bu x hb).2.trans hv) k cx.kind (cx.glo x hx).1 (cx.glo x hx).2

/-- a def of the text is entered: its body is what is left -/
theorem enter {Q : Value → Shared → Prop} {args : List Value} {binds : List (Str × Value)} (hf : IsFn d h f) (hl : h.NoLimit) (hroom : A.depth < recursionLimit)
    (hbind : ∀ pm cd doc, bindArgs (docDef d.name d.params d.body d.scope pm cd doc) ⟨args, []⟩ = pure binds)
    (hloc : ∀ x ∈ binds, d.scope.names.lookup x.1 = some .local)
    (hsc : d.scope.isCoroutine = false ∧ d.scope.isGenerator = false ∧ d.scope.kind = .function) (hcell : ∀ x ∈ d.scope.names, x.2 ≠ .cell)
    (hm : (fun x => binds.reverse.lookup x) = loc N vs)
    (k : ∀ cd L h₁ t₁, Led h L (loc N vs) h₁ [] →
      wpAny (model prog w) (A.deeper (envOf d.name d.scope L f cd)) (execs d.body (envOf d.name d.scope L f cd)) (fun fl s' => Q (match fl with | .ret v => v | _ => .none) s') NoE ⟨h₁, g, dr, t₁, os⟩) :
    wpAny (model prog w) A (call (.ref f) args) Q E ⟨h, g, dr, t, os⟩ := by
  obtain ⟨o, pm, cd, doc, h1, h2, h3⟩ := hf
  refine wpAny_call (call_plain_ret hroom h1 h2 hl h3 (hbind pm cd doc) hloc (fun h₁ F => ?_) hsc.1 hsc.2.1 hsc.2.2 hcell)
  exact k cd _ h₁ _ ⟨hm ▸ F, News.nil, List.nodup_nil⟩
end
end Mine
namespace Mine

/-- room for k frames more, and nothing is being handled -/
structure Rm (A : Around) (k : Nat) : Prop where
  hh : A.handled = none
  dep : A.depth + k < recursionLimit
  un : A.units + 20 * k + 40 < cLine
theorem Rm.deeper {A : Around} {k : Nat} (r : Rm A (k + 1)) (env : Env) : Rm (A.deeper env) k :=
  ⟨r.hh, by have := r.dep; show A.depth + 1 + k < recursionLimit; omega, by have := r.un; show A.units + 3 + 20 * k + 40 < cLine; omega⟩
theorem Rm.room {A : Around} {k : Nat} (r : Rm A k) : A.depth < recursionLimit := by have := r.dep; omega
theorem Rm.less {A : Around} {k j : Nat} (r : Rm A k) (hj : j ≤ k) : Rm A j := ⟨r.hh, by have := r.dep; omega, by have := r.un; omega⟩

theorem lookup_reverse_nodup {α β : Type} [BEq α] [LawfulBEq α] : ∀ (l : List (α × β)), (l.map (·.1)).Nodup → ∀ x, l.reverse.lookup x = l.lookup x
  | [], _, _ => rfl
  | (a, b) :: l, h, x => by
    rw [List.map_cons, List.nodup_cons] at h
    rw [List.reverse_cons, List.lookup_append, lookup_reverse_nodup l h.2 x]
    by_cases e : x == a
    · have e' := eq_of_beq e
      subst e'
      have : l.lookup x = none := by
        rw [List.lookup_eq_none_iff]
        intro p hp
        have : x ≠ p.1 := fun q => h.1 (List.mem_map.mpr ⟨p, hp, q.symm⟩)
        simpa using this
      rw [this, List.lookup_cons, List.lookup_cons]
      simp
    · simp only [Bool.not_eq_true] at e
      rw [List.lookup_cons, List.lookup_cons, e]
      simp

theorem loc_start {pn rest : List Str} {args : List Value} (hN : (pn ++ rest).Nodup) (hl : pn.length = args.length) :
    (fun x => (pn.zip args).reverse.lookup x) = loc (pn ++ rest) (args.map some ++ rest.map fun _ => none) := by
  funext x
  have hmap : (pn.zip args).map (·.1) = pn := by
    rw [List.map_fst_zip]
    omega
  rw [lookup_reverse_nodup _ (by rw [hmap]; exact (List.nodup_append.mp hN).1)]
  unfold loc
  clear hN hmap
  induction pn generalizing args with
  | nil =>
    cases args with
    | cons => simp at hl
    | nil =>
      simp only [List.zip_nil_left, List.lookup_nil, List.nil_append, List.map_nil]
      induction rest with
      | nil => rfl
      | cons r rest ih =>
        simp only [List.map_cons, List.zip_cons_cons, List.lookup_cons]
        split
        · rfl
        · exact ih
  | cons p pn ih =>
    cases args with
    | nil => simp at hl
    | cons a args =>
      simp only [List.zip_cons_cons, List.lookup_cons, List.cons_append, List.map_cons]
      split
      · rfl
      · exact ih (by simpa using hl)

/-- what is read off a def's text, once -/
structure Fn (d : DefRec) (pn rest G : List Str) : Prop where
  cx : Cx d (pn ++ rest) G
  sc : d.scope.isCoroutine = false ∧ d.scope.isGenerator = false
  cl : ∀ x ∈ d.scope.names, x.2 ≠ .cell
def fnB (d : DefRec) (pn rest G : List Str) : Bool :=
  cxB d (pn ++ rest) G && !d.scope.isCoroutine && !d.scope.isGenerator && d.scope.names.all (fun x => decide (x.2 ≠ .cell))
theorem Fn.of {d : DefRec} {pn rest G : List Str} (e : fnB d pn rest G = true) : Fn d pn rest G := by
  unfold fnB at e
  simp only [Bool.and_eq_true, Bool.not_eq_true', List.all_eq_true, decide_eq_true_eq] at e
  exact ⟨Cx.of e.1.1.1, ⟨e.1.1.2, e.1.2⟩, e.2⟩


/-- wpAny behind a lid: the elaborator does not look through it -/
structure W (prog : Program) (w : World) (A : Around) {α : Type} (t : Sem α) (Q : α → Shared → Prop) (E : Value → Shared → Prop) (s : Shared) : Prop where
  out : wpAny (model prog w) A t Q E s
/-- behind a statement: the rest where it goes on -/
def Nx (K : Shared → Prop) (Q : Flow → Shared → Prop) (f : Flow) (s : Shared) : Prop := match f with | .next => K s | f => Q f s

section
variable {prog : Program} {w : World} {A : Around} {E : Value → Shared → Prop} {s : Shared} {env : Env} {pos : Pos}
theorem W.mono {α : Type} {t : Sem α} {Q Q' : α → Shared → Prop} {E' : Value → Shared → Prop} (h : W prog w A t Q E s) (hQ : ∀ a s, Q a s → Q' a s) (hE : ∀ e s, E e s → E' e s) : W prog w A t Q' E' s := ⟨wpAny_mono h.out hQ hE⟩
theorem W.post {α : Type} {t : Sem α} {Q Q' : α → Shared → Prop} (h : W prog w A t Q E s) (hQ : ∀ a s, Q a s → Q' a s) : W prog w A t Q' E s := h.mono hQ fun _ _ x => x
theorem w_of {α : Type} {t : Sem α} {Q : α → Shared → Prop} (h : wpAny (model prog w) A t Q E s) : W prog w A t Q E s := ⟨h⟩
theorem up {α : Type} {t : Sem α} {Q Q' : α → Shared → Prop} (h : W prog w A t Q E s) (hQ : ∀ a s, Q a s → Q' a s) : wpAny (model prog w) A t Q' E s := wpAny_mono h.out hQ fun _ _ x => x

variable {Q : Value → Shared → Prop} {R : Flow → Shared → Prop} {B : Bool → Shared → Prop}
theorem w_nil (h : R .next s) : W prog w A (execs [] env) R E s := ⟨wpAny_execs_nil h⟩
theorem w_cons {st : Stmt} {rest : List Stmt} (h : W prog w A (exec st env) (Nx (fun s' => W prog w A (execs rest env) R E s') R) E s) : W prog w A (execs (st :: rest) env) R E s :=
  ⟨wpAny_execs_cons (up h fun f s' h' => by cases f <;> first | exact h' | exact h'.out)⟩
theorem w_binop {l r : Expr} {op : Operator} (h : W prog w A (eval l env) (fun a s₁ => W prog w A (eval r env) (fun b s₂ => W prog w A (binaryOp op a b) Q E s₂) E s₁) E s) : W prog w A (eval (.BinOp l op r pos) env) Q E s :=
  ⟨wpAny_BinOp (up h fun _ _ h₁ => up h₁ fun _ _ h₂ => h₂.out)⟩
theorem w_cmp {l r : Expr} {op : CmpOp} (h : W prog w A (eval l env) (fun a s₁ => W prog w A (eval r env) (fun b s₂ => W prog w A (compareOp op a b) Q E s₂) E s₁) E s) (hm : behindInMarks op r = false := by with_unfolding_all rfl) : W prog w A (eval (.Compare l [op] [r] pos) env) Q E s :=
  ⟨wpAny_Compare1 (up h fun _ _ h₁ => up h₁ fun _ _ h₂ => h₂.out) hm⟩
theorem w_tcmp {l r : Expr} {op : CmpOp} {whole : Sem Value} (h : W prog w A (eval l env) (fun a s₁ => W prog w A (eval r env) (fun b s₂ => W prog w A (compareOp op a b) (fun c s₃ => W prog w A (truthy c) B E s₃) E s₂) E s₁) E s) (hm : behindInMarks op r = false := by with_unfolding_all rfl) :
    W prog w A (isTrue (.Compare l [op] [r] pos) env whole) B E s :=
  ⟨wpAny_isTrue_Compare1 (up h fun _ _ h₁ => up h₁ fun _ _ h₂ => up h₂ fun _ _ h₃ => h₃.out) hm⟩
theorem w_tand {x : Expr} {rest : List Expr} {whole : Sem Value} (h : W prog w A (isTrue x env (eval x env)) (fun c s' => if c = true then W prog w A (isTrue (.BoolOp .And rest pos) env whole) B E s' else B false s') E s) : W prog w A (isTrue (.BoolOp .And (x :: rest) pos) env whole) B E s :=
  ⟨isTrue_and (up h fun c _ h' => by cases c <;> first | exact h' | exact W.out h')⟩
theorem w_tor {x : Expr} {rest : List Expr} {whole : Sem Value} (h : W prog w A (isTrue x env (eval x env)) (fun c s' => if c = true then B true s' else W prog w A (isTrue (.BoolOp .Or rest pos) env whole) B E s') E s) : W prog w A (isTrue (.BoolOp .Or (x :: rest) pos) env whole) B E s :=
  ⟨isTrue_or (up h fun c _ h' => by cases c <;> first | exact h' | exact W.out h')⟩
theorem w_tand0 {whole : Sem Value} (h : B true s) : W prog w A (isTrue (.BoolOp .And [] pos) env whole) B E s := ⟨isTrue_and_nil h⟩
theorem w_tor0 {whole : Sem Value} (h : B false s) : W prog w A (isTrue (.BoolOp .Or [] pos) env whole) B E s := ⟨isTrue_or_nil h⟩
theorem w_tnot {x : Expr} {whole : Sem Value} (h : W prog w A (isTrue x env (eval x env)) (fun c s' => B (!c) s') E s) : W prog w A (isTrue (.UnaryOp .Not x pos) env whole) B E s := ⟨isTrue_not h.out⟩
theorem w_tplain {e : Expr} {whole : Sem Value} (h : W prog w A whole (fun v s₁ => W prog w A (truthy v) B E s₁) E s) (he : isTrue e env whole = (do let v ← whole; standAt e.pos; holding [v] (truthy v)) := by rfl) : W prog w A (isTrue e env whole) B E s :=
  ⟨isTrue_plain (up h fun _ _ h' => h'.out) he⟩
theorem w_tbool {b : Bool} (h : B b s) : W prog w A (truthy (.bool b)) B E s := ⟨wpAny_truthy_bool h⟩
theorem w_ifexp {test body orelse : Expr} (h : W prog w A (isTrue test env (eval test env)) (fun c s₂ => if c = true then W prog w A (eval body env) Q E s₂ else W prog w A (eval orelse env) Q E s₂) E s) : W prog w A (eval (.IfExp test body orelse pos) env) Q E s :=
  ⟨IfExp_ (up h fun c _ h' => by cases c <;> exact W.out h')⟩
theorem w_unary {op : UnaryOp} {x : Expr} (h : W prog w A (eval x env) (fun v s₁ => W prog w A (unaryOp op v) Q E s₁) E s) : W prog w A (eval (.UnaryOp op x pos) env) Q E s := ⟨UnaryOp_ (up h fun _ _ h' => h'.out)⟩
theorem w_if {test : Expr} {body orelse : List Stmt} (h : W prog w A (isTrue test env (eval test env)) (fun b s₂ => if b = true then W prog w A (execs body env) R E s₂ else W prog w A (execs orelse env) R E s₂) E s) : W prog w A (exec (.If test body orelse pos) env) R E s :=
  ⟨wpAny_If (up h fun c _ h' => by cases c <;> exact W.out h')⟩
theorem w_ret {e : Expr} (h : W prog w A (eval e env) (fun v => R (.ret v)) E s) : W prog w A (exec (.Return (some e) pos) env) R E s := ⟨wpAny_Return_some h.out⟩
theorem w_ret0 (h : R (.ret .none) s) : W prog w A (exec (.Return none pos) env) R E s := ⟨wpAny_Return_none h⟩
theorem w_assign {x : Str} {p' : Pos} {e : Expr} (h : W prog w A (eval e env) (fun v s₁ => W prog w A (storeName env x v) (fun _ => R .next) E s₁) E s) (hs : swapsWith e (some (.Name x p')) pos.line env = pure false := by rfl) : W prog w A (exec (.Assign [.Name x p'] e pos) env) R E s :=
  ⟨wpAny_Assign_Name (up h fun _ _ h' => h'.out) hs⟩
theorem w_aug {x : Str} {p' : Pos} {op : Operator} {e : Expr} (h : W prog w A (loadName env x) (fun old s₁ => W prog w A (eval e env) (fun v s₂ => W prog w A (inplaceOp op old v) (fun r s₃ => W prog w A (storeName env x r) (fun _ => R .next) E s₃) E s₂) E s₁) E s) :
    W prog w A (exec (.AugAssign (.Name x p') op e pos) env) R E s :=
  ⟨wpAny_AugAssign_Name (up h fun _ _ h₁ => up h₁ fun _ _ h₂ => up h₂ fun _ _ h₃ => h₃.out)⟩
theorem w_brk (h : R .brk s) : W prog w A (exec (.Break pos) env) R E s := ⟨wpAny_Break h⟩
theorem w_cont (h : R .cont s) : W prog w A (exec (.Continue pos) env) R E s := ⟨wpAny_Continue h⟩
theorem w_item {value slice : Expr} (h : W prog w A (eval value env) (fun o s₁ => W prog w A (eval slice env) (fun i s₂ => W prog w A (subscriptTail value slice o i) Q E s₂) E s₁) E s) : W prog w A (eval (.Subscript value slice pos) env) Q E s :=
  ⟨Subscript_ (up h fun _ _ h₁ => up h₁ fun _ _ h₂ => h₂.out)⟩
theorem w_list {elts : List Expr} (h : W prog w A (spliced (backTo pos (starEach elts env))) (fun vs s₁ => W prog w A (newList vs) Q E s₁) E s) : W prog w A (eval (.List elts pos) env) Q E s := ⟨List_ (up h fun _ _ h' => h'.out)⟩
theorem w_tuple {elts : List Expr} {k : Nat} (h : W prog w A (spliced (backTo pos (starEach elts env))) (fun vs s₁ => W prog w A (newTuple vs) Q E s₁) E s) : W prog w A (eval (.Tuple elts k pos) env) Q E s := ⟨Tuple_ (up h fun _ _ h' => h'.out)⟩
theorem w_args0 {P : List Value → Shared → Prop} (h : P [] s) : W prog w A (spliced (backTo pos (starEach [] env))) P E s := ⟨args_nil h⟩
theorem w_args {P : List Value → Shared → Prop} {e : Expr} {rest : List Expr} (h : W prog w A (eval e env) (fun v s₁ => W prog w A (spliced (backTo pos (starEach rest env))) (fun vs s₂ => P (v :: vs) s₂) E s₁) E s)
    (he : starEach (e :: rest) env = (false, eval e env) :: starEach rest env := by rfl) : W prog w A (spliced (backTo pos (starEach (e :: rest) env))) P E s := ⟨args_cons (up h fun _ _ h' => h'.out) he⟩
theorem w_none {k : Nat} (h : Q .none s) : W prog w A (eval (.Constant .none k pos) env) Q E s := ⟨Constant_none h⟩
theorem w_bool {k : Nat} {b : Bool} (h : Q (.bool b) s) : W prog w A (eval (.Constant (.bool b) k pos) env) Q E s := ⟨Constant_bool h⟩
end

section
variable {prog : Program} {w : World} {A : Around} {h₀ h : Heap} {g : Array GenState} {dr : Drawn} {t : Nat} {os : OsState} {L f : Addr} {cd : Value} {d : DefRec} {N G pn rest : List Str}
  {vs : List (Option Value)} {news : List (Addr × Obj)} {mg mb : Str → Option Value} {x : Str} {pos np : Pos} {E : Value → Shared → Prop} {env : Env}
  {Q : Value → Shared → Prop} {a b : Int} {ta tb : Tok} {y z : Str}

theorem enterF {args : List Value} {vs : List (Option Value)} {n : Nat} (F : Fn d pn rest G) (Gb : Glb mg mb h) (hf : IsFn d h f) (hR : Rm A n)
    (k : ∀ cd L h₁ t₁, Led h L (loc (pn ++ rest) vs) h₁ [] →
      W prog w (A.deeper (envOf d.name d.scope L f cd)) (execs d.body (envOf d.name d.scope L f cd)) (fun fl s' => Q (match fl with | .ret v => v | _ => .none) s') NoE ⟨h₁, g, dr, t₁, os⟩)
    (hbind : ∀ pm cd doc, bindArgs (docDef d.name d.params d.body d.scope pm cd doc) ⟨args, []⟩ = pure (pn.zip args) := by (intros; rfl))
    (hl : pn.length = args.length := by rfl) (hvs : args.map some ++ rest.map (fun _ => none) = vs := by (simp only [List.map_cons, List.map_nil, List.cons_append, List.nil_append]; rfl)) :
    W prog w A (call (.ref f) args) Q E ⟨h, g, dr, t, os⟩ := by
  subst hvs
  exact ⟨enter hf Gb.nolimit hR.room hbind (fun y hy => (F.cx.loc y.1 (List.mem_append_left _ (List.of_mem_zip hy).1)).1) ⟨F.sc.1, F.sc.2, F.cx.kind⟩ F.cl (loc_start F.cx.nd hl) fun cd L h₁ t₁ S => (k cd L h₁ t₁ S).out⟩

theorem w_ld {v : Value} (cx : Cx d N G) (S : Led h₀ L (loc N vs) h news) (i : Nat) (k : Q v ⟨h, g, dr, t, os⟩) (hx : N[i]? = some x := by rfl) (hv : vs[i]? = some (some v) := by rfl) :
    W prog w A (eval (.Name x pos) (envOf d.name d.scope L f cd)) Q E ⟨h, g, dr, t, os⟩ := ⟨r_ld cx S i hx hv k⟩
theorem w_ldn {v : Value} (cx : Cx d N G) (S : Led h₀ L (loc N vs) h news) (i : Nat) (k : Q v ⟨h, g, dr, t, os⟩) (hx : N[i]? = some x := by rfl) (hv : vs[i]? = some (some v) := by rfl) :
    W prog w A (loadName (envOf d.name d.scope L f cd) x) Q E ⟨h, g, dr, t, os⟩ := ⟨ldn S.fr (loc_at cx.nd hx hv) k cx.kind (cx.loc x (List.mem_of_getElem? hx)).1⟩
theorem w_st {P : Unit → Shared → Prop} {v : Value} {vs' : List (Option Value)} (cx : Cx d N G) (S : Led h₀ L (loc N vs) h news) (i : Nat) (k : ∀ h' t', Led h₀ L (loc N vs') h' news → P () ⟨h', g, dr, t', os⟩)
    (hx : N[i]? = some x := by rfl) (hl : vs.length = N.length := by rfl) (hv : vs.set i (some v) = vs' := by (simp only [List.set_cons_zero, List.set_cons_succ]; rfl)) :
    W prog w A (storeName (envOf d.name d.scope L f cd) x v) P E ⟨h, g, dr, t, os⟩ := by
  subst hv
  exact ⟨r_st cx S i hx hl k⟩
theorem w_fn (cx : Cx d N G) (S : Led h₀ L (loc N vs) h news) (Gb : Glb mg mb h₀) (i : Nat) (hi : i ∈ fnIdx) (hn : (D i).name = x) (hx : x ∈ G) (k : ∀ b, IsFn (D i) h₀ b → Q (.ref b) ⟨h, g, dr, t, os⟩) :
    W prog w A (eval (.Name x pos) (envOf d.name d.scope L f cd)) Q E ⟨h, g, dr, t, os⟩ := ⟨r_fn cx S Gb i hi hn hx k⟩
theorem w_bu {v : Value} (cx : Cx d N G) (S : Led h₀ L (loc N vs) h news) (Gb : Glb mg mb h₀) (hv : bootBuiltins x = some v) (k : Q v ⟨h, g, dr, t, os⟩) (hb : x ∈ buNames := by decide +kernel) (hx : x ∈ G := by decide +kernel) :
    W prog w A (eval (.Name x pos) (envOf d.name d.scope L f cd)) Q E ⟨h, g, dr, t, os⟩ := ⟨r_bu cx S Gb hb hx hv k⟩
/-- a call of a def of the text by its name -/
theorem w_call {e : Expr} {es : List Expr} (cx : Cx d N G) (S : Led h₀ L (loc N vs) h news) (Gb : Glb mg mb h₀) (i : Nat)
    (k : ∀ b, W prog w A (spliced (backTo pos (starEach (e :: es) (envOf d.name d.scope L f cd)))) (fun us s₁ => Keeps h₀ s₁.heap ∧ (IsFn (D i) s₁.heap b → Glb mg mb s₁.heap → W prog w A (call (.ref b) us) Q E s₁)) E ⟨h, g, dr, t, os⟩)
    (he : starEach (e :: es) (envOf d.name d.scope L f cd) = (false, eval e (envOf d.name d.scope L f cd)) :: starEach es (envOf d.name d.scope L f cd) := by rfl)
    (hc : eval (.Call (.Name x np) (e :: es) [] pos) (envOf d.name d.scope L f cd) = (do callWith pos (← eval (.Name x np) (envOf d.name d.scope L f cd)) [] (backTo pos (starEach (e :: es) (envOf d.name d.scope L f cd))) (backToKw pos (keywordEach [] (envOf d.name d.scope L f cd)))) := by rfl)
    (hi : i ∈ fnIdx := by decide) (hn : (D i).name = x := by rfl) (hx : x ∈ G := by decide +kernel) :
    W prog w A (eval (.Call (.Name x np) (e :: es) [] pos) (envOf d.name d.scope L f cd)) Q E ⟨h, g, dr, t, os⟩ := by
  refine ⟨Call_ (r_fn cx S Gb i hi hn hx fun b hb => ?_) hc⟩
  obtain ⟨o, pm, cd', doc, h1, h2, h3⟩ := id hb
  exact callWith_def h2 (up (k b) fun us s₁ hk => ⟨hk.1 _ _ h1, (hk.2 (hb.keeps hk.1) (Gb.keeps hk.1)).out⟩) he
theorem w_callb {e : Expr} {es : List Expr} {id : String} (cx : Cx d N G) (S : Led h₀ L (loc N vs) h news) (Gb : Glb mg mb h₀) (hv : bootBuiltins x = some (.builtin id))
    (k : W prog w A (spliced (backTo pos (starEach (e :: es) (envOf d.name d.scope L f cd)))) (fun us s₁ => W prog w A (call (.builtin id) us) Q E s₁) E ⟨h, g, dr, t, os⟩)
    (he : starEach (e :: es) (envOf d.name d.scope L f cd) = (false, eval e (envOf d.name d.scope L f cd)) :: starEach es (envOf d.name d.scope L f cd) := by rfl)
    (hc : eval (.Call (.Name x np) (e :: es) [] pos) (envOf d.name d.scope L f cd) = (do callWith pos (← eval (.Name x np) (envOf d.name d.scope L f cd)) [] (backTo pos (starEach (e :: es) (envOf d.name d.scope L f cd))) (backToKw pos (keywordEach [] (envOf d.name d.scope L f cd)))) := by rfl)
    (hp : (backTo pos (starEach es (envOf d.name d.scope L f cd))).any (·.1) = false := by rfl)
    (hb : x ∈ buNames := by decide +kernel) (hx : x ∈ G := by decide +kernel) :
    W prog w A (eval (.Call (.Name x np) (e :: es) [] pos) (envOf d.name d.scope L f cd)) Q E ⟨h, g, dr, t, os⟩ :=
  ⟨Call_ (r_bu cx S Gb hb hx hv (PyProof.Rows.callWith_builtin1 (up k fun _ _ q => q.out) he hp)) hc⟩
theorem w_callt {e : Expr} {es : List Expr} {T : String} (cx : Cx d N G) (S : Led h₀ L (loc N vs) h news) (Gb : Glb mg mb h₀) (hv : bootBuiltins x = some (.type T))
    (k : W prog w A (spliced (backTo pos (starEach (e :: es) (envOf d.name d.scope L f cd)))) (fun us s₁ => W prog w A (call (.type T) us) Q E s₁) E ⟨h, g, dr, t, os⟩)
    (he : starEach (e :: es) (envOf d.name d.scope L f cd) = (false, eval e (envOf d.name d.scope L f cd)) :: starEach es (envOf d.name d.scope L f cd) := by rfl)
    (hc : eval (.Call (.Name x np) (e :: es) [] pos) (envOf d.name d.scope L f cd) = (do callWith pos (← eval (.Name x np) (envOf d.name d.scope L f cd)) [] (backTo pos (starEach (e :: es) (envOf d.name d.scope L f cd))) (backToKw pos (keywordEach [] (envOf d.name d.scope L f cd)))) := by rfl)
    (hp : (backTo pos (starEach es (envOf d.name d.scope L f cd))).any (·.1) = false := by rfl)
    (hb : x ∈ buNames := by decide +kernel) (hx : x ∈ G := by decide +kernel) :
    W prog w A (eval (.Call (.Name x np) (e :: es) [] pos) (envOf d.name d.scope L f cd)) Q E ⟨h, g, dr, t, os⟩ :=
  ⟨Call_ (r_bu cx S Gb hb hx hv (PyProof.Rows.callWith_type1 (up k fun _ _ q => q.out) he hp)) hc⟩

theorem w_int {i : Int} {k : Nat} (q : ∀ u t', Q (.int i u) ⟨h, g, dr, t', os⟩) : W prog w A (eval (.Constant (.int i) k pos) env) Q E ⟨h, g, dr, t, os⟩ := ⟨fun _ _ _ => q _ _⟩
theorem w_str {i : Str} {k : Nat} (q : ∀ u t', Q (.str i u) ⟨h, g, dr, t', os⟩) : W prog w A (eval (.Constant (.str i) k pos) env) Q E ⟨h, g, dr, t, os⟩ := ⟨fun _ _ _ => q _ _⟩
theorem w_add (q : ∀ u t', Q (.int (a + b) u) ⟨h, g, dr, t', os⟩) : W prog w A (binaryOp .Add (.int a ta) (.int b tb)) Q E ⟨h, g, dr, t, os⟩ := by
  refine ⟨?_⟩
  with_reducible exact PyProof.Rows.add_int (q _ _)
theorem w_sub (q : ∀ u t', Q (.int (a - b) u) ⟨h, g, dr, t', os⟩) : W prog w A (binaryOp .Sub (.int a ta) (.int b tb)) Q E ⟨h, g, dr, t, os⟩ := by
  refine ⟨?_⟩
  with_reducible exact PyProof.Rows.sub_int (q _ _)
theorem w_subB {p r : Bool} (q : ∀ u t', Q (.int (b2i p - b2i r) u) ⟨h, g, dr, t', os⟩) : W prog w A (binaryOp .Sub (.bool p) (.bool r)) Q E ⟨h, g, dr, t, os⟩ := by
  refine ⟨?_⟩
  with_reducible exact PyProof.Rows.sub_bool (q _ _)
theorem w_mul (hm : IntMulOk a b) (q : ∀ u t', Q (.int (a * b) u) ⟨h, g, dr, t', os⟩) : W prog w A (binaryOp .Mult (.int a ta) (.int b tb)) Q E ⟨h, g, dr, t, os⟩ := by
  refine ⟨?_⟩
  with_reducible exact PyProof.Rows.mul_int (q _ _) hm
theorem w_mod (hb : b ≠ 0) (q : ∀ u t', Q (.int (a.fmod b) u) ⟨h, g, dr, t', os⟩) : W prog w A (binaryOp .Mod (.int a ta) (.int b tb)) Q E ⟨h, g, dr, t, os⟩ := by
  refine ⟨?_⟩
  with_reducible exact PyProof.Rows.mod_int' hb (q _ _)
theorem w_fdiv (hb : b ≠ 0) (hs : Builtin.divisionGoesByPylong a b = false) (q : ∀ u t', Q (.int (a.fdiv b) u) ⟨h, g, dr, t', os⟩) : W prog w A (binaryOp .FloorDiv (.int a ta) (.int b tb)) Q E ⟨h, g, dr, t, os⟩ := by
  refine ⟨?_⟩
  with_reducible exact PyProof.Rows.floordiv_int hb (q _ _) (.inl hs)
theorem w_isub (q : ∀ u t', Q (.int (a - b) u) ⟨h, g, dr, t', os⟩) : W prog w A (inplaceOp .Sub (.int a ta) (.int b tb)) Q E ⟨h, g, dr, t, os⟩ := by
  refine ⟨?_⟩
  with_reducible exact PyProof.Rows.isub_int (q _ _)
theorem w_neg (q : ∀ u t', Q (.int (-a) u) ⟨h, g, dr, t', os⟩) : W prog w A (unaryOp .USub (.int a ta)) Q E ⟨h, g, dr, t, os⟩ := by
  refine ⟨?_⟩
  with_reducible exact PyProof.Rows.neg_int (q _ _)
theorem w_sadd (hs : y.length + z.length ≤ sizeLine) (q : ∀ u t', Q (.str (y ++ z) u) ⟨h, g, dr, t', os⟩) : W prog w A (binaryOp .Add (.str y ta) (.str z tb)) Q E ⟨h, g, dr, t, os⟩ := by
  refine ⟨?_⟩
  with_reducible exact PyProof.Rows.add_str (fun _ _ => q _ _) hs
theorem w_siadd (hs : y.length + z.length ≤ sizeLine) (q : ∀ u t', Q (.str (y ++ z) u) ⟨h, g, dr, t', os⟩) : W prog w A (inplaceOp .Add (.str y ta) (.str z tb)) Q E ⟨h, g, dr, t, os⟩ := by
  refine ⟨?_⟩
  with_reducible exact PyProof.Rows.iadd_str (fun _ _ => q _ _) hs
theorem w_iadd (q : ∀ u t', Q (.int (a + b) u) ⟨h, g, dr, t', os⟩) : W prog w A (inplaceOp .Add (.int a ta) (.int b tb)) Q E ⟨h, g, dr, t, os⟩ := by
  refine ⟨?_⟩
  with_reducible exact PyProof.Rows.iadd_int (q _ _)
theorem w_smul (hm : MulOk y a) (q : ∀ u t', Q (.str (Txt.mul y a) u) ⟨h, g, dr, t', os⟩) : W prog w A (binaryOp .Mult (.str y ta) (.int a tb)) Q E ⟨h, g, dr, t, os⟩ := by
  refine ⟨?_⟩
  with_reducible exact SB.mul hm (fun _ _ => q _ _)
theorem w_eq (q : Q (.bool (a == b)) ⟨h, g, dr, t, os⟩) : W prog w A (compareOp .Eq (.int a ta) (.int b tb)) Q E ⟨h, g, dr, t, os⟩ := by
  refine ⟨?_⟩
  with_reducible exact PyProof.Rows.eq_int q
theorem w_ne (q : Q (.bool (a != b)) ⟨h, g, dr, t, os⟩) : W prog w A (compareOp .NotEq (.int a ta) (.int b tb)) Q E ⟨h, g, dr, t, os⟩ := by
  refine ⟨?_⟩
  with_reducible exact PyProof.Rows.ne_int q
theorem w_lt (q : Q (.bool (decide (a < b))) ⟨h, g, dr, t, os⟩) : W prog w A (compareOp .Lt (.int a ta) (.int b tb)) Q E ⟨h, g, dr, t, os⟩ := by
  refine ⟨?_⟩
  with_reducible exact PyProof.Rows.lt_int q
theorem w_gt (q : Q (.bool (decide (b < a))) ⟨h, g, dr, t, os⟩) : W prog w A (compareOp .Gt (.int a ta) (.int b tb)) Q E ⟨h, g, dr, t, os⟩ := by
  refine ⟨?_⟩
  with_reducible exact PyProof.Rows.gt_int q
theorem w_seq (q : Q (.bool (y == z)) ⟨h, g, dr, t, os⟩) : W prog w A (compareOp .Eq (.str y ta) (.str z tb)) Q E ⟨h, g, dr, t, os⟩ := by
  refine ⟨?_⟩
  with_reducible exact PyProof.Rows.eq_str q
theorem w_slt (q : Q (.bool (decide (y.cps.toList < z.cps.toList))) ⟨h, g, dr, t, os⟩) : W prog w A (compareOp .Lt (.str y ta) (.str z tb)) Q E ⟨h, g, dr, t, os⟩ := by
  refine ⟨?_⟩
  with_reducible exact PyProof.Rows.lt_str q
theorem w_sgt (q : Q (.bool (decide (z.cps.toList < y.cps.toList))) ⟨h, g, dr, t, os⟩) : W prog w A (compareOp .Gt (.str y ta) (.str z tb)) Q E ⟨h, g, dr, t, os⟩ := by
  refine ⟨?_⟩
  with_reducible exact PySem.P.gt_str q
end
theorem bo_len : bootBuiltins "len" = some (.builtin "len") := by decide +kernel
theorem bo_range : bootBuiltins "range" = some (.type "range") := by decide +kernel
theorem bo_max : bootBuiltins "max" = some (.builtin "max") := by decide +kernel
theorem bo_isinstance : bootBuiltins "isinstance" = some (.builtin "isinstance") := by decide +kernel
theorem bo_sum : bootBuiltins "sum" = some (.builtin "sum") := by decide +kernel
theorem bo_enumerate : bootBuiltins "enumerate" = some (.type "enumerate") := by decide +kernel
theorem bo_list : bootBuiltins "list" = some (.type "list") := by decide +kernel
theorem bo_str : bootBuiltins "str" = some (.type "str") := by decide +kernel
theorem bo_bool : bootBuiltins "bool" = some (.type "bool") := by decide +kernel
theorem bo_int : bootBuiltins "int" = some (.type "int") := by decide +kernel
theorem bo_ValueError : bootBuiltins "ValueError" = some (.type "ValueError") := by decide +kernel
theorem small {n : Nat} (h : n ≤ 1000) : n ≤ sizeLine := by rw [sizeLine_eq]; omega
end Mine
namespace Mine
theorem nd_new {h₀ h : Heap} {L : Addr} {m : Str → Option Value} {news : List (Addr × Obj)} (S : Led h₀ L m h news) {D : Addr} {o : Obj} (hD : h.get? D = none) : (((D, o) :: news).map (·.1)).Nodup := by
  rw [List.map_cons, List.nodup_cons]
  refine ⟨fun hm => ?_, S.nd⟩
  obtain ⟨p, hp, he⟩ := List.mem_map.mp hm
  have := (S.nw p hp).1
  rw [he, hD] at this
  cases this
theorem none_size (h : Heap) : h.get? h.objs.size = none := by
  cases q : h.get? h.objs.size with
  | none => rfl
  | some o => exact absurd (Heap.lt_size q) (Nat.lt_irrefl _)
theorem lnew {h₀ h : Heap} {L : Addr} {m : Str → Option Value} {news : List (Addr × Obj)} (S : Led h₀ L m h news) (o : Obj) (hf : o.isFreed = false) : Led h₀ L m (h.push o) ((h.objs.size, o) :: news) :=
  ⟨S.fr.push o, S.nw.push S.fr o hf, nd_new S (none_size h)⟩
/-- what a call has handed back joins the ledger -/
theorem ladd {h₀ h h' : Heap} {L : Addr} {m : Str → Option Value} {news : List (Addr × Obj)} (S : Led h₀ L m h news) (k : Keeps h h') {D : Addr} {o : Obj} (hD : h.get? D = none) (ho : h'.get? D = some o) : Led h₀ L m h' ((D, o) :: news) := by
  have S' := lkeeps S k
  refine ⟨S'.fr, fun p hp => ?_, nd_new S hD⟩
  rcases List.mem_cons.mp hp with rfl | hp
  · refine ⟨ho, fun e => ?_, ?_⟩
    · obtain ⟨oL, _, _, hL, _⟩ := S.fr.ns
      rw [← e] at hL
      have hL' : h.get? D = some oL := hL
      rw [hD] at hL'; cases hL'
    · cases q : h₀.get? D with
      | none => rfl
      | some x => have := S.fr.keep D x q; rw [hD] at this; cases this
  · exact S'.nw p hp
def lst (us : List Value) (n : Nat) : Obj := { cls := .type "list", data := .seq us.toArray n }
def tup (us : List Value) : Obj := { cls := .type "tuple", data := .seq us.toArray }
theorem isList_of {h : Heap} {a : Addr} {us : List Value} {n : Nat} (e : h.get? a = some (lst us n)) : h.IsList a us.toArray := ⟨_, e, rfl, n, rfl⟩
theorem isTup_of {h : Heap} {a : Addr} {us : List Value} (e : h.get? a = some (tup us)) : IsTup h a us.toArray := ⟨_, e, rfl, 0, rfl⟩
theorem lget {h₀ h : Heap} {L : Addr} {m : Str → Option Value} {news : List (Addr × Obj)} (S : Led h₀ L m h news) (i : Nat) {a : Addr} {o : Obj} (hi : news[i]? = some (a, o)) : h.get? a = some o := S.nw.get (List.mem_of_getElem? hi)
theorem lkeep {h₀ h : Heap} {L : Addr} {m : Str → Option Value} {news : List (Addr × Obj)} (S : Led h₀ L m h news) : Keeps h₀ h := S.fr.keep

section
variable {prog : Program} {w : World} {A : Around} {h₀ h : Heap} {g : Array GenState} {dr : Drawn} {t : Nat} {os : OsState} {L f : Addr} {m : Str → Option Value}
  {news : List (Addr × Obj)} {E : Value → Shared → Prop} {env : Env} {value slice : PySem.Expr}
  {Q : Value → Shared → Prop} {B : Bool → Shared → Prop} {a b : Int} {ta tb : Tok} {y z : Str} {us : List Value} {l : Addr}

theorem w_newlist (S : Led h₀ L m h news) (hs : us.length ≤ sizeLine) (k : ∀ c h', Led h₀ L m h' ((c, lst us 0) :: news) → Q (.ref c) ⟨h', g, dr, t, os⟩) : W prog w A (newList us) Q E ⟨h, g, dr, t, os⟩ := by
  refine ⟨?_⟩
  refine newList_N S.fr S.nw (fun h' F N => ?_) hs
  exact k _ h' ⟨F, N, nd_new S (none_size h)⟩
theorem w_newtuple (S : Led h₀ L m h news) (hs : us.length ≤ sizeLine) (k : ∀ c h', Led h₀ L m h' ((c, tup us) :: news) → Q (.ref c) ⟨h', g, dr, t, os⟩) : W prog w A (newTuple us) Q E ⟨h, g, dr, t, os⟩ := by
  refine ⟨?_⟩
  refine newTuple_N S.fr S.nw (fun h' F N => ?_) hs
  exact k _ h' ⟨F, N, nd_new S (none_size h)⟩
theorem w_li {v : Value} (hl : h.IsList l us.toArray) (h0 : 0 ≤ a) (hhi : a < 2 ^ 63) (hx : us[a.toNat]? = some v) (q : Q v ⟨h, g, dr, t, os⟩)
    (hs : subscripted slice false (.ref l) (.int a ta) = operate [.ref l, .int a ta] (getItem (.ref l) (.int a ta)) := by with_unfolding_all rfl) :
    W prog w A (subscriptTail value slice (.ref l) (.int a ta)) Q E ⟨h, g, dr, t, os⟩ := by
  refine ⟨?_⟩
  have hT : (⟨h, g, dr, t, os⟩ : Shared).TypeIs (.ref l) "list" := Heap.IsList.typeIs (s := ⟨h, g, dr, t, os⟩) hl
  with_reducible exact tail_any hT slot_list_getitem.lookup (wpAny_getItem_list hl h0 hhi (by simpa using hx) q) hs
theorem w_ti {v : Value} {j : Nat} (hl : IsTup h l us.toArray) (hlo : -(2 ^ 63) ≤ a) (hhi : a < 2 ^ 63) (hj : seqIndex? a us.length = some j) (hx : us[j]? = some v) (q : Q v ⟨h, g, dr, t, os⟩)
    (hs : subscripted slice false (.ref l) (.int a ta) = operate [.ref l, .int a ta] (getItem (.ref l) (.int a ta)) := by with_unfolding_all rfl) :
    W prog w A (subscriptTail value slice (.ref l) (.int a ta)) Q E ⟨h, g, dr, t, os⟩ := by
  refine ⟨?_⟩
  with_reducible exact item_tupleT hl hlo hhi hj hx q hs
theorem w_isi_ib (q : ∀ t', Q (.bool false) ⟨h, g, dr, t', os⟩) : W prog w A (call (.builtin "isinstance") [.int a ta, .type "bool"]) Q E ⟨h, g, dr, t, os⟩ := by
  refine ⟨?_⟩
  with_reducible refine IsiPair.int_bool ?_
  exact q _
theorem w_isi_ii (q : ∀ t', Q (.bool true) ⟨h, g, dr, t', os⟩) : W prog w A (call (.builtin "isinstance") [.int a ta, .type "int"]) Q E ⟨h, g, dr, t, os⟩ := by
  refine ⟨?_⟩
  with_reducible refine IsiPair.int_int ?_
  exact q _

theorem ints_reads {h : Heap} : ∀ (l : List (Int × Tok)), ReadsAll h (l.map fun p => Value.int p.1 p.2) (l.map fun p => PyData.int p.1) []
  | [] => .nil
  | p :: l => by
    have := ReadsAll.cons (Reads.int (h := h) p.1 p.2) (ints_reads l)
    simpa using this
theorem canLay_ints : ∀ (l : List Int), PyData.canLayAll0 (l.map PyData.int) = true
  | [] => rfl
  | p :: l => by
    have := canLay_ints l
    simp only [List.map_cons, PyData.canLayAll0, PyData.canLay0, this, Bool.and_true]
theorem depth_ints : ∀ (l : List Int), PyData.depthAll (l.map PyData.int) = 0
  | [] => rfl
  | p :: l => by
    have := depth_ints l
    simp only [List.map_cons, PyData.depthAll, PyData.depth, this, Nat.max_self]
theorem w_notin_tup {n : Nat} (l : List (Int × Tok)) {c : Addr} (hR : Rm A n) (hl : h.get? c = some (tup (l.map fun p => Value.int p.1 p.2))) (q : Q (.bool (!(l.map (·.1)).contains a)) ⟨h, g, dr, t, os⟩) :
    W prog w A (compareOp .NotIn (.int a ta) (.ref c)) Q E ⟨h, g, dr, t, os⟩ := by
  refine ⟨?_⟩
  have rc : Reads h (.ref c) (.tuple ((l.map (·.1)).map PyData.int)) [] := .tuple (vs := (l.map fun p => Value.int p.1 p.2).toArray) hl rfl rfl (by rw [List.map_map]; exact ints_reads (h := h) l)
  refine SeqAt.notIn_tuple_reads (s := ⟨h, g, dr, t, os⟩) rc (Reads.int a ta) (canLay_ints _) rfl ?_ ?_
  · have := hR.un
    rw [depth_ints]
    simp only [PyData.depth]
    omega
  · have e : ((l.map (·.1)).map PyData.int).any (fun y => PyData.eqv y (.int a)) = (l.map (·.1)).contains a := by
      rw [List.any_map, List.contains_eq_any_beq]
      refine congrArg (fun p => (l.map (·.1)).any p) (funext fun i => ?_)
      show (i == a) = (a == i)
      exact BEq.comm
    rw [e]
    exact q
end
end Mine
namespace Mine
section
variable {h₀ h h' : Heap} {L : Addr} {m : Str → Option Value} {news news' : List (Addr × Obj)} {c : Addr} {o o' : Obj}
theorem lset (S : Led h₀ L m h news) (i : Nat) (hi : news[i]? = some (c, o)) (hs : Heap.SameBut c h h') (ho' : h'.get? c = some o') : Led h₀ L m h' (news.set i (c, o')) := by
  have sp := pairwise_split hi
  have z := S.nw (c, o) (List.mem_of_getElem? hi)
  have nd' := S.nd
  rw [sp, List.map_append, List.map_cons] at nd'
  have nd'' := List.nodup_append.mp nd'
  have p1 : ∀ p ∈ news.take i, p.1 ≠ c := fun p hp => nd''.2.2 p.1 (List.mem_map_of_mem hp) c (.head _)
  have p2 : ∀ p ∈ news.drop (i + 1), p.1 ≠ c := fun p hp e => (List.nodup_cons.mp nd''.2.1).1 (List.mem_map.mpr ⟨p, hp, e⟩)
  have N := S.nw
  rw [sp] at N
  have e : news.set i (c, o') = news.take i ++ (c, o') :: news.drop (i + 1) := by
    obtain ⟨hl, _⟩ := List.getElem?_eq_some_iff.mp hi
    exact List.set_eq_take_append_cons_drop.trans (if_pos hl)
  refine ⟨S.fr.change hs z.2.1 z.2.2, ?_, ?_⟩
  · rw [e]; exact news_set N p1 p2 hs ho'
  · rw [e, List.map_append, List.map_cons]; exact nd'
theorem ldrop (S : Led h₀ L m h ((c, o) :: news)) : Led h₀ L m h news := ⟨S.fr, fun p hp => S.nw p (.tail _ hp), (List.nodup_cons.mp S.nd).2⟩
theorem lext (S : Led h₀ L m h ((c, o) :: news)) (he : Heap.ExtBut c h h') : Led h₀ L m h' news := by
  have z := S.nw (c, o) (.head _)
  have q := (List.nodup_cons.mp S.nd).1
  obtain ⟨oL, a1, a2, hoL, a3⟩ := S.fr.ns
  refine ⟨⟨⟨oL, a1, a2, he L oL z.2.1.symm hoL, a3⟩, fun b x e => he b x (fun hb => ?_) (S.fr.keep b x e), S.fr.above⟩, fun p hp => ?_, (List.nodup_cons.mp S.nd).2⟩
  · have := z.2.2; rw [← hb, e] at this; cases this
  · have y := S.nw p (.tail _ hp)
    exact ⟨he _ _ (fun e => q (List.mem_map.mpr ⟨p, hp, e⟩)) y.1, y.2⟩
theorem keeps_push (h : Heap) (o : Obj) : Keeps h (h.push o) := fun _ _ e => Heap.get?_push_of_some o e
end

def Lp (I : Nat → Shared → Prop) (n : Nat) (R : Flow → Shared → Prop) (f : Flow) (s : Shared) : Prop := match f with
  | .next | .cont => ∃ m, m < n ∧ I m s
  | .brk => R .next s
  | .ret v => R (.ret v) s
def Tn (K : Shared → Prop) (J : Value → Shared → Prop) (r : Option Value) (s : Shared) : Prop := match r with
  | none => K s
  | some v => J v s
structure C (prog : Program) (w : World) (A : Around) (c : Code) (R : Flow → Shared → Prop) (s : Shared) : Prop where
  out : codeAny (model prog w) A c (fun r s' => match r with | .ok f => R f s' | .error _ => False) s

section
variable {prog : Program} {w : World} {A : Around} {s : Shared} {env : Env} {pos : Pos} {R : Flow → Shared → Prop} {test iter target : PySem.Expr} {body : List Stmt}
theorem w_while (I : Nat → Shared → Prop)
    (turn : ∀ n s, I n s → W prog w A (isTrue test env (eval test env)) (fun b s₂ => if b = true then W prog w A (execs body env) (Lp I n R) NoE s₂ else R .next s₂) NoE s)
    (n : Nat) (h : I n s) : W prog w A (exec (.While test body [] pos) env) R NoE s := by
  refine ⟨wpAny_While (codeAny_whileLoop I (fun n s hI => ?_) n h)⟩
  refine wpAny_mono (turn n s hI).out (fun b s₂ hb => ?_) fun _ _ x => x.elim
  cases b with
  | true =>
    rw [if_pos rfl] at hb ⊢
    refine wpAny_mono (W.out hb) (fun f s₃ h₃ => ?_) fun _ _ x => x.elim
    cases f <;> exact h₃
  | false =>
    rw [if_neg Bool.false_ne_true] at hb ⊢
    exact wpAny_execs_nil hb
theorem w_for (h : W prog w A (eval iter env) (fun x s₁ => W prog w A (pyIter x) (fun it s₂ => C prog w A (.forLoop target it body [] env) R s₂) NoE s₁) NoE s)
    (hs : ∀ x, foldedSetIterable iter env x = pure x := by intro _; rfl) : W prog w A (exec (.For target iter body [] pos) env) R NoE s := by
  refine ⟨wpAny_For (up h fun x s₁ h₁ => up h₁ fun it s₂ h₂ => ?_) hs⟩
  refine codeAny_mono h₂.out fun r s' hr => ?_
  cases r with
  | ok f => exact hr
  | error e => exact hr.elim
theorem c_for {it : Value} (I : Nat → Shared → Prop)
    (turn : ∀ n s, I n s → W prog w A (pyNext it) (Tn (R .next) fun v s₁ => W prog w A (assign target env v) (fun _ s₂ => W prog w A (execs body env) (Lp I n R) NoE s₂) NoE s₁) NoE s)
    (n : Nat) (h : I n s) (ht : ∀ v, letOwnedTupleGo target it v = pure () := by intro _; rfl) : C prog w A (.forLoop target it body [] env) R s := by
  refine ⟨codeAny_forLoop I (fun n s hI => ?_) n h ht⟩
  refine wpAny_mono (turn n s hI).out (fun r s₁ h₁ => ?_) fun _ _ x => x.elim
  cases r with
  | none => exact wpAny_execs_nil h₁
  | some v =>
    refine wpAny_mono (W.out h₁) (fun _ s₂ h₂ => ?_) fun _ _ x => x.elim
    refine wpAny_mono h₂.out (fun f s₃ h₃ => ?_) fun _ _ x => x.elim
    cases f <;> exact h₃
theorem w_asg {x : Str} {v : Value} {P : Unit → Shared → Prop} {E : Value → Shared → Prop} (h : W prog w A (storeName env x v) P E s) : W prog w A (assign (.Name x pos) env v) P E s := ⟨wpAny_assign_Name h.out⟩
theorem w_slice {lower upper step : Option PySem.Expr} {Q : Value → Shared → Prop} {E : Value → Shared → Prop}
    (h : W prog w A (evalPart lower env) (fun l s₁ => W prog w A (evalPart upper env) (fun u s₂ => W prog w A (evalPart step env) (fun st s₃ =>
      Q (.ref s₃.heap.objs.size) ⟨s₃.heap.push { cls := .type "slice", data := .fields #[l, u, st] }, s₃.gens, s₃.drawn, s₃.toks, s₃.os⟩) E s₂) E s₁) E s) : W prog w A (eval (.Slice lower upper step pos) env) Q E s :=
  ⟨wpAny_Slice (up h fun _ _ h₁ => up h₁ fun _ _ h₂ => up h₂ fun _ _ h₃ => h₃)⟩
theorem w_p0 {Q : Value → Shared → Prop} {E : Value → Shared → Prop} (h : Q .none s) : W prog w A (evalPart none env) Q E s := ⟨wpAny_pure h⟩
theorem w_p1 {e : PySem.Expr} {Q : Value → Shared → Prop} {E : Value → Shared → Prop} (h : W prog w A (eval e env) Q E s) : W prog w A (evalPart (some e) env) Q E s := ⟨h.out⟩
end

def IsSI (o : Obj) (x : Str) (tx : Tok) (i : Nat) : Prop := o.cls = .type "str_ascii_iterator" ∧ o.data = .fields #[.str x tx, .int i 0]
def IsLI (o : Obj) (l : Addr) (i : Nat) : Prop := o.cls = .type "list_iterator" ∧ o.data = .fields #[.ref l, .int i 0]
def rgi (x left : Int) : Obj := { cls := .type "range_iterator", dict := none, data := .fields #[rawInt x, rawInt left, rawInt 1], slots := #[] }
def rng (a b : Int) (t u v : Tok) : Obj := { cls := .type "range", dict := none, data := .fields #[.int a t, .int b u, .int 1 v], slots := #[] }

section
variable {prog : Program} {w : World} {A : Around} {h₀ h : Heap} {g : Array GenState} {dr : Drawn} {t : Nat} {os : OsState} {L f c l : Addr} {m : Str → Option Value}
  {news : List (Addr × Obj)} {E : Value → Shared → Prop} {env : Env} {value slice : PySem.Expr} {o : Obj}
  {Q : Value → Shared → Prop} {B : Bool → Shared → Prop} {P : Option Value → Shared → Prop} {a b left : Int} {ta tb tx : Tok} {x y z : Str} {us : List Value} {i ch n : Nat} {v : Value}

theorem w_iter_str (S : Led h₀ L m h news) (ha : x.cps.all (· < 128) = true) (q : ∀ c o h', Led h₀ L m h' ((c, o) :: news) → IsSI o x tx 0 → Q (.ref c) ⟨h', g, dr, t, os⟩) : W prog w A (pyIter (.str x tx)) Q E ⟨h, g, dr, t, os⟩ :=
  ⟨wpAny_pyIter_ascii ha (q _ _ _ (lnew S _ rfl) ⟨rfl, rfl⟩)⟩
theorem w_next_str (S : Led h₀ L m h ((c, o) :: news)) (ho : IsSI o x tx i) (hx : x.cps[i]? = some ch) (q : ∀ h' o' u t', Led h₀ L m h' ((c, o') :: news) → IsSI o' x tx (i + 1) → P (some (.str ⟨#[ch]⟩ u)) ⟨h', g, dr, t', os⟩) :
    W prog w A (pyNext (.ref c)) P E ⟨h, g, dr, t, os⟩ := by
  refine ⟨wpAny_pyNext_ascii_item (s := ⟨h, g, dr, t, os⟩) ⟨o, lget S 0 rfl, ho⟩ hx fun h' hi hs => ?_⟩
  obtain ⟨o', ho', hi'⟩ := hi
  exact q h' o' _ _ (lset S 0 rfl hs ho') hi'
theorem w_end_str (S : Led h₀ L m h ((c, o) :: news)) (hR : Rm A n) (ho : IsSI o x tx i) (hx : x.cps[i]? = none) (q : ∀ h', Led h₀ L m h' news → P none ⟨h', g, dr, t, os⟩) :
    W prog w A (pyNext (.ref c)) P E ⟨h, g, dr, t, os⟩ :=
  ⟨wpAny_pyNext_ascii_end (s := ⟨h, g, dr, t, os⟩) hR.hh ⟨o, lget S 0 rfl, ho⟩ hx fun h' he => q h' (lext S he)⟩
theorem w_iter_list (S : Led h₀ L m h news) (hl : h.IsList l us.toArray) (q : ∀ c o h', Led h₀ L m h' ((c, o) :: news) → IsLI o l 0 → h'.IsList l us.toArray → Q (.ref c) ⟨h', g, dr, t, os⟩) : W prog w A (pyIter (.ref l)) Q E ⟨h, g, dr, t, os⟩ :=
  ⟨wpAny_pyIter_list (s := ⟨h, g, dr, t, os⟩) hl (q _ _ _ (lnew S _ rfl) ⟨rfl, rfl⟩ (hl.push _))⟩
theorem w_next_list (S : Led h₀ L m h ((c, o) :: news)) (ho : IsLI o l i) (hl : h.IsList l us.toArray) (hx : us[i]? = some v) (q : ∀ h' o', Led h₀ L m h' ((c, o') :: news) → IsLI o' l (i + 1) → P (some v) ⟨h', g, dr, t, os⟩) :
    W prog w A (pyNext (.ref c)) P E ⟨h, g, dr, t, os⟩ := by
  refine ⟨wpAny_pyNext_list_item (s := ⟨h, g, dr, t, os⟩) (x := v) ⟨o, lget S 0 rfl, ho⟩ hl (by rw [List.getElem?_toArray]; exact hx) fun h' hi hs => ?_⟩
  obtain ⟨o', ho', hi'⟩ := hi
  exact q h' o' (lset S 0 rfl hs ho') hi'
theorem w_end_list (S : Led h₀ L m h ((c, o) :: news)) (hR : Rm A n) (ho : IsLI o l i) (hl : h.IsList l us.toArray) (hx : us[i]? = none) (q : ∀ h', Led h₀ L m h' news → P none ⟨h', g, dr, t, os⟩) :
    W prog w A (pyNext (.ref c)) P E ⟨h, g, dr, t, os⟩ :=
  ⟨wpAny_pyNext_list_end (s := ⟨h, g, dr, t, os⟩) hR.hh ⟨o, lget S 0 rfl, ho⟩ hl (by rw [List.getElem?_toArray]; exact hx) fun h' he => q h' (lext S he)⟩
theorem w_range2 (S : Led h₀ L m h news) (q : ∀ c h' u t', Led h₀ L m h' ((c, rng a b ta tb u) :: news) → Q (.ref c) ⟨h', g, dr, t', os⟩) : W prog w A (call (.type "range") [.int a ta, .int b tb]) Q E ⟨h, g, dr, t, os⟩ :=
  ⟨call_range_2 (s := ⟨h, g, dr, t, os⟩) (q _ _ _ _ (lnew S _ rfl))⟩
theorem w_iter_range (S : Led h₀ L m h news) (i : Nat) (hi : news[i]? = some (l, rng a b ta tb tx)) (ha : -(2 ^ 62) ≤ a) (ha' : a ≤ b) (hb' : b < 2 ^ 62) (q : ∀ c h', Led h₀ L m h' ((c, rgi a (b - a)) :: news) → Q (.ref c) ⟨h', g, dr, t, os⟩) : W prog w A (pyIter (.ref l)) Q E ⟨h, g, dr, t, os⟩ := by
  refine ⟨wpAny_pyIter_range (s := ⟨h, g, dr, t, os⟩) (lget S i hi) (small_one ha (by omega) (by omega) hb') (q _ _ ?_)⟩
  have e : Builtin.Range.rangeSize a b 1 = b - a := by rw [rangeSize_one]; split <;> omega
  rw [e]
  exact lnew S (rgi a (b - a)) rfl
theorem w_next_range (S : Led h₀ L m h ((c, rgi a left) :: news)) (hx : 0 < left) (q : ∀ h' u t', Led h₀ L m h' ((c, rgi (a + 1) (left - 1)) :: news) → P (some (.int a u)) ⟨h', g, dr, t', os⟩) :
    W prog w A (pyNext (.ref c)) P E ⟨h, g, dr, t, os⟩ :=
  ⟨wpAny_pyNext_range_item (s := ⟨h, g, dr, t, os⟩) (lget S 0 rfl) hx fun h' hi hs => q h' _ _ (lset S 0 rfl hs hi)⟩
theorem w_end_range (S : Led h₀ L m h ((c, rgi a left) :: news)) (hR : Rm A n) (hx : left ≤ 0) (q : ∀ h', Led h₀ L m h' news → P none ⟨h', g, dr, t, os⟩) :
    W prog w A (pyNext (.ref c)) P E ⟨h, g, dr, t, os⟩ :=
  ⟨wpAny_pyNext_range_end (s := ⟨h, g, dr, t, os⟩) hR.hh (lget S 0 rfl) hx fun h' he => q h' (lext S he)⟩

theorem w_si (hr : -(2 ^ 63) ≤ a ∧ a < 2 ^ 63) (hc : (seqIndex? a x.length).bind (x.cps[·]?) = some ch) (q : ∀ u t', Q (.str ⟨#[ch]⟩ u) ⟨h, g, dr, t', os⟩)
    (hs : subscripted slice false (.str x tx) (.int a ta) = operate [.str x tx, .int a ta] (getItem (.str x tx) (.int a ta)) := by with_unfolding_all rfl) :
    W prog w A (subscriptTail value slice (.str x tx) (.int a ta)) Q E ⟨h, g, dr, t, os⟩ := by
  refine ⟨tail_any (typeIs_str _ _ _) F.slot_str_getitem.lookup ?_ hs⟩
  exact PyProof.Rows.getItem_str (by have := hr.1; have := hr.2; rw [Bool.or_eq_false_iff, decide_eq_false_iff_not, decide_eq_false_iff_not]; omega) hc (q _ _)
theorem w_sslice {lo hi : Option (Int × Tok)} (hsl : h.IsSlice c lo hi none) (hx : x.length ≤ sizeLine) (q : ∀ u t', Q (.str (Txt.slice x (lo.map (·.1)) (hi.map (·.1))) u) ⟨h, g, dr, t', os⟩)
    (hs : subscripted slice false (.str x tx) (.ref c) = operate [.ref c, .str x tx] (getItem (.str x tx) (.ref c)) := by with_unfolding_all rfl) :
    W prog w A (subscriptTail value slice (.str x tx) (.ref c)) Q E ⟨h, g, dr, t, os⟩ := by
  refine ⟨tail_any (typeIs_str _ _ _) F.slot_str_getitem.lookup ?_ hs⟩
  exact wpAny_getItem_str_slice (s := ⟨h, g, dr, t, os⟩) (l := lo) (u := hi) (st := none) hsl rfl (post_val_or_str ⟨Nat.le_trans (Txt.slice_le x _ _) hx, fun t' k => q t' k⟩)
theorem w_tint (q : B (a != 0) ⟨h, g, dr, t, os⟩) : W prog w A (truthy (.int a ta)) B E ⟨h, g, dr, t, os⟩ := ⟨PyProof.Rows.truthy_int q⟩
theorem w_lens (hx : x.length ≤ sizeLine) (q : ∀ u t', Q (.int x.length u) ⟨h, g, dr, t', os⟩) : W prog w A (call (.builtin "len") [.str x tx]) Q E ⟨h, g, dr, t, os⟩ :=
  ⟨PyProof.Rows.len_str (s := ⟨h, g, dr, t, os⟩) (by rw [sizeLine_eq] at hx; omega) (q _ _)⟩
theorem w_max (S : Led h₀ L m h news) (hR : Rm A n) (q : ∀ h' u t', Led h₀ L m h' news → Q (.int (if b > a then b else a) u) ⟨h', g, dr, t', os⟩) : W prog w A (call (.builtin "max") [.int a ta, .int b tb]) Q E ⟨h, g, dr, t, os⟩ :=
  ⟨max_two_N (s := ⟨h, g, dr, t, os⟩) hR.hh S.fr S.nw fun h' _ F N => q h' _ _ ⟨F, N, S.nd⟩⟩
end
end Mine
namespace Mine
section
variable {prog : Program} {w : World} {A : Around} {s : Shared} {env : Env} {E : Value → Shared → Prop} {R : Flow → Shared → Prop}
theorem w_then {st : Stmt} {rest : List Stmt} (K : Shared → Prop) (h : W prog w A (exec st env) (fun f s' => f = .next ∧ K s') E s) (k : ∀ s', K s' → W prog w A (execs rest env) R E s') : W prog w A (execs (st :: rest) env) R E s :=
  w_cons (h.post fun f s' hf => by obtain ⟨rfl, hk⟩ := hf; exact k s' hk)
end
section
variable {prog : Program} {w : World} {A : Around} {h₀ h : Heap} {g : Array GenState} {dr : Drawn} {t : Nat} {os : OsState} {L f c l : Addr} {m : Str → Option Value}
  {news : List (Addr × Obj)} {E : Value → Shared → Prop} {env : Env} {o e e1 e2 : PySem.Expr} {s : Shared} {name : Str} {apos pos : Pos} {id : String}
  {Q : Value → Shared → Prop} {tx ty : Tok} {x y : Str}
theorem w_smeth0 (slot : Slot "str" name id) (ty : typeOf (.builtin id) = pure (.type "method_descriptor"))
    (h : W prog w A (eval o env) (fun ov s₁ => ∃ x tx, ov = .str x tx ∧ W prog w A (call (.builtin id) [.str x tx]) Q E s₁) E s)
    (hbase : attributeBase o name env (eval o env) = eval o env := by rfl) (hline : (apos.endLine == pos.line) = true := by rfl) :
    W prog w A (eval (.Call (.Attribute o name apos) [] [] pos) env) Q E s := by
  refine ⟨Call_method0 hbase hline (up h fun ov s₁ h₁ => ?_)⟩
  obtain ⟨x, tx, rfl, hc⟩ := h₁
  exact ⟨"str", id, F.plainAttrs_str, slot, ty, typeIs_str _ _ _, (fun _ e => nomatch e), callWith_builtin (args := []) rfl (PyProof.Rows.evalArgs_none hc.out)⟩
theorem w_smeth1 (slot : Slot "str" name id) (ty : typeOf (.builtin id) = pure (.type "method_descriptor"))
    (h : W prog w A (eval o env) (fun ov s₁ => ∃ x tx, ov = .str x tx ∧ W prog w A (eval e env) (fun v s₂ => W prog w A (call (.builtin id) [.str x tx, v]) Q E s₂) E s₁) E s)
    (hbase : attributeBase o name env (eval o env) = eval o env := by rfl) (hs : starEach [e] env = [(false, eval e env)] := by rfl) (hline : (apos.endLine == pos.line) = true := by rfl) :
    W prog w A (eval (.Call (.Attribute o name apos) [e] [] pos) env) Q E s := by
  refine ⟨Call_method1 hbase hs hline (up h fun ov s₁ h₁ => ?_)⟩
  obtain ⟨x, tx, rfl, hc⟩ := h₁
  exact ⟨"str", id, F.plainAttrs_str, slot, ty, typeIs_str _ _ _, (fun _ e => nomatch e), callWith_builtin rfl (evalArgs_plain (spliced_cons (up hc fun v s₂ h₂ => spliced_nil h₂.out)))⟩
theorem w_smeth2 (slot : Slot "str" name id) (ty : typeOf (.builtin id) = pure (.type "method_descriptor"))
    (h : W prog w A (eval o env) (fun ov s₁ => ∃ x tx, ov = .str x tx ∧ W prog w A (eval e1 env) (fun v s₂ => W prog w A (eval e2 env) (fun v2 s₃ => W prog w A (call (.builtin id) [.str x tx, v, v2]) Q E s₃) E s₂) E s₁) E s)
    (hbase : attributeBase o name env (eval o env) = eval o env := by rfl) (hs : starEach [e1, e2] env = [(false, eval e1 env), (false, eval e2 env)] := by rfl) (hline : (apos.endLine == pos.line) = true := by rfl) :
    W prog w A (eval (.Call (.Attribute o name apos) [e1, e2] [] pos) env) Q E s := by
  refine ⟨Call_method2 hbase hs hline (up h fun ov s₁ h₁ => ?_)⟩
  obtain ⟨x, tx, rfl, hc⟩ := h₁
  exact ⟨"str", id, F.plainAttrs_str, slot, ty, typeIs_str _ _ _, (fun _ e => nomatch e), callWith_builtin rfl (evalArgs_plain (spliced_cons (up hc fun v s₂ h₂ => spliced_cons (up h₂ fun v2 s₃ h₃ => spliced_nil h₃.out))))⟩
theorem w_index {i : Nat} {rest : List Nat} (hi : Builtin.Str.occurrences x y 0 x.length 1 = i :: rest) (q : ∀ u t', Q (.int (i : Int) u) ⟨h, g, dr, t', os⟩) : W prog w A (call (.builtin "str.index") [.str x tx, .str y ty]) Q E ⟨h, g, dr, t, os⟩ :=
  ⟨SC.index (s := ⟨h, g, dr, t, os⟩) hi (q _ _)⟩
theorem w_strip (hx : x.length ≤ sizeLine) (q : ∀ u t', Q (.str (Txt.strip x) u) ⟨h, g, dr, t', os⟩) : W prog w A (call (.builtin "str.strip") [.str x tx]) Q E ⟨h, g, dr, t, os⟩ :=
  ⟨SC.strip (s := ⟨h, g, dr, t, os⟩) (fun _ _ => q _ _) hx⟩
end
end Mine
namespace Mine
def IsNs (o : Obj) (m : Str → Option Value) : Prop := ∃ es ep, o.data = .dict es ep ∧ StrKeys es ∧ ∀ name, nsFind es name = m name
theorem ns_iff {h : Heap} {a : Addr} {m : Str → Option Value} : h.Ns a m ↔ ∃ o, h.get? a = some o ∧ IsNs o m := by
  constructor
  · rintro ⟨o, es, ep, h1, h2, h3, h4⟩; exact ⟨o, h1, es, ep, h2, h3, h4⟩
  · rintro ⟨o, h1, es, ep, h2, h3, h4⟩; exact ⟨o, es, ep, h1, h2, h3, h4⟩
def IsLs (o : Obj) (us : List Value) : Prop := o.cls = .type "list" ∧ o.dict = none ∧ ∃ n, o.data = .seq us.toArray n
theorem isLs_lst (us : List Value) (n : Nat) : IsLs (lst us n) us := ⟨rfl, rfl, n, rfl⟩
theorem isList_ls {h : Heap} {a : Addr} {o : Obj} {us : List Value} (e : h.get? a = some o) (x : IsLs o us) : h.IsList a us.toArray := ⟨o, e, x.1, x.2.2⟩
section
variable {h₀ h h' : Heap} {L : Addr} {m : Str → Option Value} {news news' : List (Addr × Obj)} {c : Addr} {o o' : Obj}
theorem lsub (S : Led h₀ L m h news) (hs : news'.Sublist news) : Led h₀ L m h news' := ⟨S.fr, fun p hp => S.nw p (hs.subset hp), S.nd.sublist (hs.map _)⟩
theorem lextI (S : Led h₀ L m h news) (i : Nat) (hi : news[i]? = some (c, o)) (he : Heap.ExtBut c h h') : Led h₀ L m h' (news.eraseIdx i) := by
  have z := S.nw (c, o) (List.mem_of_getElem? hi)
  obtain ⟨oL, a1, a2, hoL, a3⟩ := S.fr.ns
  refine ⟨⟨⟨oL, a1, a2, he L oL z.2.1.symm hoL, a3⟩, fun b x e => he b x (fun hb => ?_) (S.fr.keep b x e), S.fr.above⟩, fun p hp => ?_, S.nd.sublist ((List.eraseIdx_sublist ..).map _)⟩
  · have := z.2.2; rw [← hb, e] at this; cases this
  · have hm : p ∈ news := (List.eraseIdx_sublist ..).subset hp
    have y := S.nw p hm
    refine ⟨he _ _ (fun hc => ?_) y.1, y.2⟩
    obtain ⟨j, hj, hjp⟩ := List.mem_eraseIdx_iff_getElem?.mp hp
    have e1 : (news.map (·.1))[j]? = some c := by rw [List.getElem?_map, hjp]; simp [hc]
    have e2 : (news.map (·.1))[i]? = some c := by rw [List.getElem?_map, hi]; rfl
    obtain ⟨l1, q1⟩ := List.getElem?_eq_some_iff.mp e1
    obtain ⟨l2, q2⟩ := List.getElem?_eq_some_iff.mp e2
    have pw := List.pairwise_iff_getElem.mp S.nd
    rcases Nat.lt_trichotomy i j with hij | hij | hij
    · exact pw i j l2 l1 hij (q2.trans q1.symm)
    · exact hj hij.symm
    · exact pw j i l1 l2 hij (q1.trans q2.symm)
end
section
variable {prog : Program} {w : World} {A : Around} {h₀ h : Heap} {g : Array GenState} {dr : Drawn} {t : Nat} {os : OsState} {L f c l D C : Addr} {m mc : Str → Option Value}
  {news : List (Addr × Obj)} {E : Value → Shared → Prop} {env : Env} {o : Obj} {e elt : PySem.Expr} {s : Shared} {pos apos : Pos} {R : Flow → Shared → Prop}
  {Q : Value → Shared → Prop} {P : Option Value → Shared → Prop} {U : Unit → Shared → Prop} {a left : Int} {x : Str} {us : List Value} {i n : Nat} {v : Value} {scope : Scope} {cl : List (Str × Addr)}

theorem w_appendb (S : Led h₀ L m h news) (i : Nat) (hi : news[i]? = some (D, o)) (ho : IsLs o us) (hs : us.length ≤ sizeLine) (q : ∀ h' o', Led h₀ L m h' (news.set i (D, o')) → IsLs o' (us ++ [v]) → Q .none ⟨h', g, dr, t, os⟩) :
    W prog w A (call (.builtin "list.append") [.ref D, v]) Q E ⟨h, g, dr, t, os⟩ := by
  obtain ⟨k1, k2, n, k3⟩ := ho
  refine ⟨list_append_plainL (s := ⟨h, g, dr, t, os⟩) (its := us.toArray) ⟨o, n, lget S i hi, k1, k2, k3⟩ (fun h' hp hb => ?_) (by rw [List.size_toArray]; exact hs)⟩
  obtain ⟨o', n', e1, e2, e3, e4⟩ := hp
  exact q h' o' (lset S i hi hb e1) ⟨e2, e3, n', by rw [e4]; simp only [List.push_toArray]⟩
theorem w_append {ob : PySem.Expr} (h : W prog w A (eval ob env) (fun ov s₁ => ∃ D o us, ov = .ref D ∧ s₁.heap.get? D = some o ∧ IsLs o us ∧ W prog w A (eval elt env) (fun y s₂ => W prog w A (call (.builtin "list.append") [.ref D, y]) Q E s₂) E s₁) E s)
    (hbase : attributeBase ob "append" env (eval ob env) = eval ob env := by rfl)
    (hfew : ((backTo pos (starEach [elt] env)).all (fun x => !x.1) && (backToKw pos (keywordEach [] env)).all (fun x => x.1.isSome)
      && decide (([elt] : List PySem.Expr).length + ([] : List Keyword).length + (if ([] : List Keyword).isEmpty then 0 else 1) < 30)) = true := by rfl)
    (hline : (apos.endLine == pos.line) = true := by rfl) (htrees : backTo pos (starEach [elt] env) = [(false, eval elt env)] := by rfl) :
    W prog w A (eval (.Call (.Attribute ob "append" apos) [elt] [] pos) env) Q E s := by
  refine ⟨wpAny_Call_append hbase hfew hline htrees (up h fun ov s₁ h₁ => ?_)⟩
  obtain ⟨D, o, us, rfl, h1, ⟨k1, k2, n, k3⟩, h3⟩ := h₁
  exact ⟨D, us.toArray, rfl, ⟨o, n, h1, k1, k2, k3⟩, up h3 fun y s₂ h₂ => h₂.out⟩
theorem w_expr (h : W prog w A (eval e env) (fun v s' => (∀ a, v ≠ .ref a) ∧ R .next s') E s) (hi : interactive env = false := by rfl) (hs : swapsWith e none pos.line env = pure false := by rfl) : W prog w A (exec (.Expr e pos) env) R E s := by
  refine ⟨wpAny_Expr (up h fun v s' h' => ?_) hi hs⟩
  cases v <;> first | exact h'.2 | exact absurd rfl (h'.1 _)

theorem w_next_listI (S : Led h₀ L m h news) (j : Nat) (hj : news[j]? = some (c, o)) (ho : IsLI o l i) (hl : h.IsList l us.toArray) (hx : us[i]? = some v) (q : ∀ h' o', Led h₀ L m h' (news.set j (c, o')) → IsLI o' l (i + 1) → P (some v) ⟨h', g, dr, t, os⟩) :
    W prog w A (pyNext (.ref c)) P E ⟨h, g, dr, t, os⟩ := by
  refine ⟨wpAny_pyNext_list_item (s := ⟨h, g, dr, t, os⟩) (x := v) ⟨o, lget S j hj, ho⟩ hl (by rw [List.getElem?_toArray]; exact hx) fun h' hi hs => ?_⟩
  obtain ⟨o', ho', hi'⟩ := hi
  exact q h' o' (lset S j hj hs ho') hi'
theorem w_end_listI (S : Led h₀ L m h news) (hR : Rm A n) (j : Nat) (hj : news[j]? = some (c, o)) (ho : IsLI o l i) (hl : h.IsList l us.toArray) (hx : us[i]? = none) (q : ∀ h', Led h₀ L m h' (news.eraseIdx j) → P none ⟨h', g, dr, t, os⟩) :
    W prog w A (pyNext (.ref c)) P E ⟨h, g, dr, t, os⟩ :=
  ⟨wpAny_pyNext_list_end (s := ⟨h, g, dr, t, os⟩) hR.hh ⟨o, lget S j hj, ho⟩ hl (by rw [List.getElem?_toArray]; exact hx) fun h' he => q h' (lextI S j hj he)⟩
theorem w_next_rangeI (S : Led h₀ L m h news) (j : Nat) (hj : news[j]? = some (c, rgi a left)) (hx : 0 < left) (q : ∀ h' u t', Led h₀ L m h' (news.set j (c, rgi (a + 1) (left - 1))) → P (some (.int a u)) ⟨h', g, dr, t', os⟩) :
    W prog w A (pyNext (.ref c)) P E ⟨h, g, dr, t, os⟩ :=
  ⟨wpAny_pyNext_range_item (s := ⟨h, g, dr, t, os⟩) (lget S j hj) hx fun h' hi hs => q h' _ _ (lset S j hj hs hi)⟩
theorem w_end_rangeI (S : Led h₀ L m h news) (hR : Rm A n) (j : Nat) (hj : news[j]? = some (c, rgi a left)) (hx : left ≤ 0) (q : ∀ h', Led h₀ L m h' (news.eraseIdx j) → P none ⟨h', g, dr, t, os⟩) :
    W prog w A (pyNext (.ref c)) P E ⟨h, g, dr, t, os⟩ :=
  ⟨wpAny_pyNext_range_end (s := ⟨h, g, dr, t, os⟩) hR.hh (lget S j hj) hx fun h' he => q h' (lextI S j hj he)⟩

/-- names of a comprehension's own -/
theorem w_cld {news : List (Addr × Obj)} (S : Led h₀ L m h news) (i : Nat) (hi : news[i]? = some (C, o)) (ho : IsNs o mc) (hv : mc x = some v) (q : Q v ⟨h, g, dr, t, os⟩)
    (hk : scope.kind = .function := by rfl) (hx : scope.names.lookup x = some .local := by decide +kernel) (hd : (x == ("__debug__" : Str)) = false := by decide +kernel) :
    W prog w A (eval (.Name x pos) (compEnvC scope cl C env)) Q E ⟨h, g, dr, t, os⟩ :=
  ⟨wpAny_Name (wpAny_loadName_local (env := compEnvC scope cl C env) hk (lookup_relabel_local hx) (ns_iff.mpr ⟨o, lget S i hi, ho⟩) hv q) hd⟩
theorem w_cst (S : Led h₀ L m h news) (i : Nat) (hi : news[i]? = some (C, o)) (ho : IsNs o mc) (q : ∀ h' o' t', Led h₀ L m h' (news.set i (C, o')) → IsNs o' (fun y => if y = x then some v else mc y) → U () ⟨h', g, dr, t', os⟩)
    (hk : scope.kind = .function := by rfl) (hx : scope.names.lookup x = some .local := by decide +kernel) :
    W prog w A (storeName (compEnvC scope cl C env) x v) U E ⟨h, g, dr, t, os⟩ := by
  refine ⟨wpAny_storeName_local (env := compEnvC scope cl C env) (s := ⟨h, g, dr, t, os⟩) (lookup_relabel_local hx) (ns_iff.mpr ⟨o, lget S i hi, ho⟩) (fun h' hn hs => ?_) (by show (scope.kind == .class || (scope.kind == .module && C != env.globals)) = false; rw [hk]; rfl)⟩
  obtain ⟨o', e1, e2⟩ := ns_iff.mp hn
  exact q h' o' _ (lset S i hi hs e1) e2
end

/-- a comprehension's loop -/
structure CK (prog : Program) (w : World) (A : Around) (env : Env) (e : PySem.Expr) (scope : Scope) (cl : List (Str × Addr)) (it : Value) (D C : Addr) (Q : Shared → Prop) (s : Shared) : Prop where
  out : codeAny (model prog w) A (.compLoop e 0 it (.ref D) (compEnvC scope cl C env)) (fun r s' => match r with | .ok _ => ∃ m, s'.heap.Ns C m ∧ ∀ h', Heap.SameBut C s'.heap h' → Q ⟨h', s'.gens, s'.drawn, s'.toks, s'.os⟩ | .error _ => False) s
/-- behind the iterator: what is left of a comprehension -/
structure CJ (prog : Program) (w : World) (A : Around) (env : Env) (e : PySem.Expr) (scope : Scope) (cl : List (Str × Addr)) (it : Value) (Q : Value → Shared → Prop) (s : Shared) : Prop where
  out : wpAny (model prog w) A (newList []) (fun acc s₃ => wpAny (model prog w) A (newFunctionEnv scope env.globals cl [] env.qual none .none (some env)) (fun cenv s₄ =>
    codeAny (model prog w) A (.compStart e 0 it acc { cenv with scope := relabel scope env }) (compPost (model prog w) A NoE none Q acc cenv.locals) s₄) NoE s₃) NoE s

section
variable {prog : Program} {w : World} {A : Around} {env : Env} {elt target iter : PySem.Expr} {ifs : List PySem.Expr} {scope : Scope} {cl : List (Str × Addr)} {pos : Pos} {Q : Value → Shared → Prop} {s : Shared} {it : Value}
theorem w_comp (h : W prog w A (eval iter env) (fun x s₁ => W prog w A (pyIter x) (fun it s₂ => CJ prog w A env (.ListComp elt [⟨target, iter, ifs, 0⟩] scope pos) scope cl it Q s₂) NoE s₁) NoE s)
    (hclos : closureFor scope env = pure cl) (hkind : scope.kind = .function := by rfl) (hnames : ∀ x ∈ scope.names, x.2 = .local → scope.names.lookup x.1 = some .local := by decide +kernel)
    (hs : ∀ x, foldedSetIterable iter env x = pure x := by intro _; rfl) :
    W prog w A (eval (.ListComp elt [⟨target, iter, ifs, 0⟩] scope pos) env) Q NoE s := by
  refine ⟨?_⟩
  rw [eval_ListComp]
  exact wpAny_comprehension_free (use := none) rfl hs hclos hkind hnames (up h fun x s₁ h₁ => up h₁ fun it s₂ h₂ => h₂.out)

variable {h₀ h : Heap} {g : Array GenState} {dr : Drawn} {t : Nat} {os : OsState} {L : Addr} {m : Str → Option Value} {news : List (Addr × Obj)}
theorem cj_go (S : Led h₀ L m h news) (hself : ∀ (D C : Addr) (oC : Obj) (h' : Heap) (P : Value → Shared → Prop), Led h₀ L m h' ((C, oC) :: (D, lst [] 0) :: news) → P it ⟨h', g, dr, t, os⟩ → W prog w A (pyIter it) P NoE ⟨h', g, dr, t, os⟩)
    (k : ∀ D C oC h', Led h₀ L m h' ((C, oC) :: (D, lst [] 0) :: news) → IsNs oC (fun _ => none) → CK prog w A env (.ListComp elt [⟨target, iter, ifs, 0⟩] scope pos) scope cl it D C (Q (.ref D)) ⟨h', g, dr, t, os⟩)
    (hcell : ∀ x ∈ scope.names, x.2 ≠ .cell := by decide +kernel) (hkind : scope.kind = .function := by rfl) :
    CJ prog w A env (.ListComp elt [⟨target, iter, ifs, 0⟩] scope pos) scope cl it Q ⟨h, g, dr, t, os⟩ := by
  refine ⟨(w_newlist S (Nat.zero_le _) fun D h₁ S₁ => ⟨?_⟩ : W prog w A (newList []) (fun acc s₃ => W prog w A (newFunctionEnv scope env.globals cl [] env.qual none .none (some env)) (fun cenv s₄ =>
    codeAny (model prog w) A (.compStart (.ListComp elt [⟨target, iter, ifs, 0⟩] scope pos) 0 it acc { cenv with scope := relabel scope env }) (compPost (model prog w) A NoE none Q acc cenv.locals) s₄) NoE s₃) NoE _) |>.post (fun _ _ x => x.out) |>.out⟩
  refine wpAny_newFunctionEnv hcell (by intro y hy; simp at hy) (fun h₂ hns hsb => ?_) hkind
  obtain ⟨oC, e1, e2⟩ := ns_iff.mp hns
  have S₂ : Led h₀ L m h₂ ((h₁.objs.size, oC) :: (D, lst [] 0) :: news) := by
    have := lset (lnew S₁ { cls := .type (if (some env).isSome then "dict" else "frame"), data := .dict #[] } rfl) 0 rfl hsb e1
    exact this
  have c := (k D h₁.objs.size oC h₂ S₂ e2).out
  have c' : codeAny (model prog w) A (.compLoop (.ListComp elt [⟨target, iter, ifs, 0⟩] scope pos) 0 it (.ref D) (compEnvC scope cl h₁.objs.size env)) (compPost (model prog w) A NoE none Q (.ref D) h₁.objs.size) ⟨h₂, g, dr, t, os⟩ := by
    refine codeAny_mono c fun r s' hr => ?_
    cases r with
    | ok f => exact hr
    | error e => exact hr.elim
  exact codeAny_compStart_list c' ((hself D h₁.objs.size oC h₂ (fun it' s' => codeAny (model prog w) A (.compLoop (.ListComp elt [⟨target, iter, ifs, 0⟩] scope pos) 0 it' (.ref D) (compEnvC scope cl h₁.objs.size env)) (compPost (model prog w) A NoE none Q (.ref D) h₁.objs.size) s') S₂ c').mono (fun _ _ x => x) fun _ _ x => x.elim).out
theorem ck_loop {D C : Addr} {K : Shared → Prop} (I : Nat → Shared → Prop)
    (turn : ∀ n s, I n s → W prog w A (pyNext it) (Tn (fun s' => ∃ m, s'.heap.Ns C m ∧ ∀ h', Heap.SameBut C s'.heap h' → K ⟨h', s'.gens, s'.drawn, s'.toks, s'.os⟩) fun v s₁ => W prog w A (assign target (compEnvC scope cl C env) v) (fun _ s₂ =>
      W prog w A (forIn ifs true fun c r => if r = true then do let ok ← isTrue c (compEnvC scope cl C env) (eval c (compEnvC scope cl C env)); pure (ForInStep.yield ok) else pure (ForInStep.yield r)) (fun ok s₃ =>
        if ok = true then W prog w A (eval elt (compEnvC scope cl C env)) (fun x s₄ => W prog w A (call (.builtin "list.append") [.ref D, x]) (fun _ s₅ => ∃ m, m < n ∧ I m s₅) NoE s₄) NoE s₃ else ∃ m, m < n ∧ I m s₃) NoE s₂) NoE s₁) NoE s)
    (n : Nat) (h : I n s) (ht : ∀ v, letOwnedTupleGo target it v = pure () := by intro _; rfl) :
    CK prog w A env (.ListComp elt [⟨target, iter, ifs, 0⟩] scope pos) scope cl it D C K s := by
  refine ⟨codeAny_compLoop_tests I (fun n s hI => ?_) n h ht⟩
  refine wpAny_mono (turn n s hI).out (fun r s₁ h₁ => ?_) fun _ _ x => x.elim
  cases r with
  | none => exact h₁
  | some v =>
    refine wpAny_mono (W.out h₁) (fun _ s₂ h₂ => ?_) fun _ _ x => x.elim
    refine wpAny_mono h₂.out (fun ok s₃ h₃ => ?_) fun _ _ x => x.elim
    cases ok with
    | false => exact h₃
    | true =>
      refine wpAny_mono (W.out h₃) (fun x s₄ h₄ => ?_) fun _ _ x => x.elim
      exact wpAny_mono h₄.out (fun _ _ x => x) fun _ _ x => x.elim
theorem w_if0 {cenv : Env} {B : Bool → Shared → Prop} {E : Value → Shared → Prop} (h : B true s) :
    W prog w A (forIn ([] : List PySem.Expr) true fun c r => if r = true then do let ok ← isTrue c cenv (eval c cenv); pure (ForInStep.yield ok) else pure (ForInStep.yield r)) B E s := ⟨wpAny_tests_nil h⟩
theorem w_if1 {cenv : Env} {c : PySem.Expr} {B : Bool → Shared → Prop} {E : Value → Shared → Prop} (h : W prog w A (isTrue c cenv (eval c cenv)) B E s) :
    W prog w A (forIn [c] true fun c r => if r = true then do let ok ← isTrue c cenv (eval c cenv); pure (ForInStep.yield ok) else pure (ForInStep.yield r)) B E s := ⟨wpAny_tests_one h.out⟩
/-- the end of a comprehension's loop, its namespace at the head of the ledger -/
theorem ck_end {C : Addr} {oC : Obj} {K : Shared → Prop} {mc : Str → Option Value} (S : Led h₀ L m h ((C, oC) :: news)) (ho : IsNs oC mc) (k : ∀ h', Led h₀ L m h' news → K ⟨h', g, dr, t, os⟩) :
    ∃ m, (⟨h, g, dr, t, os⟩ : Shared).heap.Ns C m ∧ ∀ h', Heap.SameBut C (⟨h, g, dr, t, os⟩ : Shared).heap h' → K ⟨h', g, dr, t, os⟩ :=
  ⟨mc, ns_iff.mpr ⟨oC, lget S 0 rfl, ho⟩, fun h' hs => k h' (lext S hs.extBut)⟩
theorem self_list {c l : Addr} {o : Obj} {i : Nat} {P : Value → Shared → Prop} (e : h.get? c = some o) (ho : IsLI o l i) (q : P (.ref c) ⟨h, g, dr, t, os⟩) : W prog w A (pyIter (.ref c)) P NoE ⟨h, g, dr, t, os⟩ :=
  ⟨wpAny_pyIter_listiter (s := ⟨h, g, dr, t, os⟩) ⟨o, e, ho⟩ q⟩
theorem self_range {c : Addr} {a left : Int} {P : Value → Shared → Prop} (e : h.get? c = some (rgi a left)) (q : P (.ref c) ⟨h, g, dr, t, os⟩) : W prog w A (pyIter (.ref c)) P NoE ⟨h, g, dr, t, os⟩ :=
  ⟨wpAny_pyIter_rangeiter (s := ⟨h, g, dr, t, os⟩) e q⟩
end
end Mine
namespace Mine
def IsDc (prog : Program) (w : World) (o : Obj) (f : Str → Option Value) : Prop := o.ExactDict ∧ ∃ es ep, o.data = .dict es ep ∧ KeysOf (PySem.strKind prog w) es ∧ ∀ k, findBy (PySem.strKind prog w).is es k = f k
theorem map_iff {prog : Program} {w : World} {h : Heap} {a : Addr} {f : Str → Option Value} : h.MapOf (PySem.strKind prog w) a f ↔ ∃ o, h.get? a = some o ∧ IsDc prog w o f := by
  constructor
  · rintro ⟨o, es, ep, h1, h2, h3, h4, h5⟩; exact ⟨o, h1, h2, es, ep, h3, h4, h5⟩
  · rintro ⟨o, h1, h2, es, ep, h3, h4, h5⟩; exact ⟨o, es, ep, h1, h2, h3, h4, h5⟩
def dct0 : Obj := { cls := .type "dict", data := .dict #[] }
theorem isDc_0 (prog : Program) (w : World) : IsDc prog w dct0 (fun _ => none) := ⟨⟨rfl, rfl, rfl⟩, #[], 0, rfl, fun _ he => by simp at he, fun _ => rfl⟩

section
variable {prog : Program} {w : World} {A : Around} {h₀ h : Heap} {g : Array GenState} {dr : Drawn} {t : Nat} {os : OsState} {L l d : Addr} {m : Str → Option Value}
  {news : List (Addr × Obj)} {E : Value → Shared → Prop} {env : Env} {o : Obj} {e1 e2 value slice ob ix : PySem.Expr} {s : Shared} {pos pos' tpos : Pos} {R : Flow → Shared → Prop} {n k : Nat}
  {Q : Value → Shared → Prop} {U : Unit → Shared → Prop} {v1 v2 v : Value} {x y : Str} {tx ty ti : Tok} {f : Str → Option Value} {elts : List PySem.Expr}

theorem w_dict0 (S : Led h₀ L m h news) (q : ∀ c h', Led h₀ L m h' ((c, dct0) :: news) → Q (.ref c) ⟨h', g, dr, t, os⟩) : W prog w A (eval (.Dict [] [] pos) env) Q E ⟨h, g, dr, t, os⟩ :=
  ⟨wpAny_Dict_empty (s := ⟨h, g, dr, t, os⟩) (q _ _ (lnew S dct0 rfl))⟩
theorem w_setsub (h : W prog w A (eval value env) (fun v s₁ => W prog w A (eval ob env) (fun ov s₂ => W prog w A (eval ix env) (fun iv s₃ => W prog w A (setItem ov iv v) (fun _ => R .next) E s₃) E s₂) E s₁) E s)
    (hs : swapsWith value (some (.Subscript ob ix pos')) pos.line env = pure false := by rfl) : W prog w A (exec (.Assign [.Subscript ob ix pos'] value pos) env) R E s :=
  ⟨wpAny_Assign_Subscript (up h fun _ _ h₁ => up h₁ fun _ _ h₂ => up h₂ fun _ _ h₃ => h₃.out) hs⟩
theorem w_setd (S : Led h₀ L m h news) (i : Nat) (hi : news[i]? = some (d, o)) (ho : IsDc prog w o f) (hz : ∀ es ep, o.data = .dict es ep → es.size ≤ 1000)
    (q : ∀ h' o' t', Led h₀ L m h' (news.set i (d, o')) → IsDc prog w o' (fun z => if z = x then some v else f z) → U () ⟨h', g, dr, t', os⟩) : W prog w A (setItem (.ref d) (.str x tx) v) U E ⟨h, g, dr, t, os⟩ := by
  refine ⟨wpAny_setItem_of (s := ⟨h, g, dr, t, os⟩) (strKind_is prog w x tx) (map_iff.mpr ⟨o, lget S i hi, ho⟩) (fun h' hm hs => ?_) (fun o' es ep ho' hd => ?_)⟩
  · obtain ⟨o', e1, e2⟩ := map_iff.mp hm
    exact q h' o' _ (lset S i hi hs e1) e2
  · have e := lget S i hi
    rw [show (⟨h, g, dr, t, os⟩ : Shared).heap = h from rfl, e] at ho'
    cases ho'
    exact small (hz es ep hd)
theorem w_getd (ho' : h.get? d = some o) (ho : IsDc prog w o f) (hv : f x = some v) (q : ∀ t', Q v ⟨h, g, dr, t', os⟩)
    (hs : subscripted slice false (.ref d) (.str x tx) = operate [.ref d, .str x tx] (getItem (.ref d) (.str x tx)) := by with_unfolding_all rfl) :
    W prog w A (subscriptTail value slice (.ref d) (.str x tx)) Q E ⟨h, g, dr, t, os⟩ := by
  have hm := map_iff.mpr ⟨o, ho', ho⟩
  exact ⟨tail_any (Heap.MapOf.typeIs (s := ⟨h, g, dr, t, os⟩) hm) slot_dict_getitem.lookup (wpAny_getItem_of (s := ⟨h, g, dr, t, os⟩) (strKind_is prog w x tx) hm hv (q _)) hs⟩
theorem w_assignT (h : W prog w A (eval value env) (fun v s₁ => W prog w A (assign (.Tuple elts k tpos) env v) (fun _ => R .next) E s₁) E s)
    (hs : swapsWithSole [.Tuple elts k tpos] value pos.line env = pure false := by rfl) (hw : swappedStores [.Tuple elts k tpos] value env = pure none := by rfl) : W prog w A (exec (.Assign [.Tuple elts k tpos] value pos) env) R E s :=
  ⟨Assign_Tuple (up h fun _ _ h₁ => h₁.out) hs hw⟩
theorem w_unpackL (S : Led h₀ L m h news) (hR : Rm A n) (hl : h.IsList l [v1, v2].toArray)
    (k : ∀ h', Led h₀ L m h' news → W prog w A (assign e1 env v1) (fun _ s' => W prog w A (assign e2 env v2) U E s') E ⟨h', g, dr, t, os⟩)
    (he : assignEach [e1, e2] env = [(false, assign e1 env), (false, assign e2 env)] := by rfl) {kk : Nat} : W prog w A (assign (.Tuple [e1, e2] kk pos) env (.ref l)) U E ⟨h, g, dr, t, os⟩ := by
  refine ⟨kun_list (s := ⟨h, g, dr, t, os⟩) S.fr S.nw hl hR.hh (by rw [he]; rfl) (by rw [he]; rfl) fun h' F N => ?_⟩
  rw [he]
  show wpAny _ _ (do holding [v2] (assign e1 env v1); (do holding [] (assign e2 env v2); pure ())) U E _
  exact wpAny_bind (wpAny_holding (up (k h' ⟨F, N, S.nd⟩) fun _ _ h₂ => wpAny_bind (wpAny_holding (up h₂ fun _ _ x => wpAny_pure x))))
theorem w_unpackT (S : Led h₀ L m h news) (hR : Rm A n) (hl : IsTup h l [v1, v2].toArray)
    (k : ∀ h', Led h₀ L m h' news → W prog w A (assign e1 env v1) (fun _ s' => W prog w A (assign e2 env v2) U E s') E ⟨h', g, dr, t, os⟩)
    (he : assignEach [e1, e2] env = [(false, assign e1 env), (false, assign e2 env)] := by rfl) {kk : Nat} : W prog w A (assign (.Tuple [e1, e2] kk pos) env (.ref l)) U E ⟨h, g, dr, t, os⟩ := by
  refine ⟨wpAny_assign_Tuple (s := ⟨h, g, dr, t, os⟩) hR.hh hl (by rw [he]; rfl) (by rw [he]; rfl) fun h' hE => ?_⟩
  rw [he]
  show wpAny _ _ (do holding [v2] (assign e1 env v1); (do holding [] (assign e2 env v2); pure ())) U E _
  have S' : Led h₀ L m h' news := lkeeps S fun b o' e => hE b o' (Nat.ne_of_lt (Heap.lt_size e)) e
  exact wpAny_bind (wpAny_holding (up (k h' S') fun _ _ h₂ => wpAny_bind (wpAny_holding (up h₂ fun _ _ x => wpAny_pure x))))
theorem w_split (S : Led h₀ L m h news) {p1 p2 : Str} (hy : (y.length == 0) = false) (hsp : Txt.splitMax x y 1 = [p1, p2]) (hx : x.length ≤ 900)
    (q : ∀ c h' u1 u2 t', Led h₀ L m h' ((c, lst [.str p1 u1, .str p2 u2] 0) :: news) → Q (.ref c) ⟨h', g, dr, t', os⟩) : W prog w A (call (.builtin "str.split") [.str x tx, .str y ty, .int 1 ti]) Q E ⟨h, g, dr, t, os⟩ := by
  refine ⟨splitN2A (s := ⟨h, g, dr, t, os⟩) S.fr S.nw hy (by decide) (fun l h' tk hl _ _ _ F N => ?_) (small (by omega))⟩
  rw [hsp] at hl
  match l, hl with
  | [(a1, u1), (a2, u2)], hl =>
    simp only [List.map_cons, List.map_nil, List.cons.injEq, and_true] at hl
    obtain ⟨rfl, rfl⟩ := hl
    exact q _ h' u1 u2 _ ⟨F, N, nd_new S (none_size h)⟩
end
end Mine
namespace Mine
section
variable {prog : Program} {w : World} {A : Around} {h₀ h : Heap} {g : Array GenState} {dr : Drawn} {t : Nat} {os : OsState} {L l c : Addr} {m : Str → Option Value}
  {news : List (Addr × Obj)} {E : Value → Shared → Prop} {value slice : PySem.Expr} {Q : Value → Shared → Prop} {us vs' : List Value} {vl vu vst : Value} {lo hi st : Option Int} {n : Nat}
theorem w_lenl (hl : h.IsList l us.toArray) (hs : us.length ≤ sizeLine) (q : ∀ u t', Q (.int us.length u) ⟨h, g, dr, t', os⟩) : W prog w A (call (.builtin "len") [.ref l]) Q E ⟨h, g, dr, t, os⟩ := by
  refine ⟨PyProof.Rows.len_list (s := ⟨h, g, dr, t, os⟩) hl (by rw [List.size_toArray]; rw [sizeLine_eq] at hs; omega) ?_⟩
  rw [List.size_toArray]
  exact q _ _
theorem w_lslice (S : Led h₀ L m h news) (hl : h.IsList l us.toArray) (hs : h.IsSliceOf c vl vu vst) (pl : IsPart vl lo) (pu : IsPart vu hi) (ps : IsPart vst st) (h0 : st ≠ some 0) (he : slicePick us.toArray lo hi st = vs'.toArray) (hsz : us.length ≤ sizeLine)
    (q : ∀ b h', Led h₀ L m h' ((b, lst vs' 0) :: news) → Q (.ref b) ⟨h', g, dr, t, os⟩)
    {ops : List Value} (hsub : subscripted slice false (.ref l) (.ref c) = operate ops (getItem (.ref l) (.ref c)) := by with_unfolding_all rfl) :
    W prog w A (subscriptTail value slice (.ref l) (.ref c)) Q E ⟨h, g, dr, t, os⟩ := by
  refine ⟨tail_any (Heap.IsList.typeIs (s := ⟨h, g, dr, t, os⟩) hl) slot_list_getitem.lookup (wpAny_getItem_list_slice (s := ⟨h, g, dr, t, os⟩) hl hs pl pu ps h0 ?_ (by rw [List.size_toArray]; exact hsz)) hsub⟩
  rw [he]
  exact q _ _ (lnew S (lst vs' 0) rfl)
theorem strs_reads {h : Heap} : ∀ (l : List (Str × Tok)), ReadsAll h (strValues l) ((l.map (·.1)).map PyData.str) []
  | [] => .nil
  | p :: l => by
    have := ReadsAll.cons (Reads.str (h := h) p.1 p.2) (strs_reads l)
    simpa [strValues] using this
theorem canLay_strs : ∀ (l : List Str), l.all PyData.strOk = true → PyData.canLayAll0 (l.map PyData.str) = true
  | [], _ => rfl
  | p :: l, h => by
    rw [List.all_cons, Bool.and_eq_true] at h
    have := canLay_strs l h.2
    simp only [List.map_cons, PyData.canLayAll0, PyData.canLay0, this, h.1, Bool.and_true]
theorem depth_strs : ∀ (l : List Str), PyData.depthAll (l.map PyData.str) = 0
  | [] => rfl
  | p :: l => by
    have := depth_strs l
    simp only [List.map_cons, PyData.depthAll, PyData.depth, this, Nat.max_self]
theorem reads_ls {o : Obj} {a : Addr} {us : List Value} {xs : List PyData} (e : h.get? a = some o) (ho : IsLs o us) (r : ReadsAll h us xs []) : Reads h (.ref a) (.list xs) [a] := by
  obtain ⟨k1, _, n, k3⟩ := ho
  exact .list (vs := us.toArray) e k1 k3 r
theorem w_eqstrs {a b : Addr} {oa ob : Obj} {la lb : List (Str × Tok)} (hR : Rm A n) (ea : h.get? a = some oa) (ha : IsLs oa (strValues la)) (eb : h.get? b = some ob) (hb : IsLs ob (strValues lb)) (hab : la.map (·.1) = lb.map (·.1)) (hok : (lb.map (·.1)).all PyData.strOk = true)
    (q : Q (.bool true) ⟨h, g, dr, t, os⟩) : W prog w A (compareOp .Eq (.ref a) (.ref b)) Q E ⟨h, g, dr, t, os⟩ := by
  have hc : (PyData.list ((lb.map (·.1)).map PyData.str)).canLay0 = true := by simp only [PyData.canLay0, canLay_strs _ hok]
  have ra := reads_ls ea ha (strs_reads la)
  rw [hab] at ra
  refine ⟨SeqAt.compareEq_reads (s := ⟨h, g, dr, t, os⟩) ra (reads_ls eb hb (strs_reads lb)) hc hc ?_ ?_⟩
  · have := hR.un
    simp only [PyData.depth, depth_strs]
    omega
  · rw [SeqAt.eqv_refl _ hc]
    exact q
theorem noPy (a : Int) : Builtin.divisionGoesByPylong a 2 = false := by
  unfold Builtin.divisionGoesByPylong
  have : ((2 : Int) == 0) = false := by decide
  simp only [this, Bool.false_eq_true, if_false]
  rfl
end
end Mine
namespace Mine
theorem fn1 : Fn (D 1) ["a", "b"] [] [] := Fn.of (by decide +kernel)
section
variable {prog : Program} {w : World} {A : Around} {h : Heap} {g : Array GenState} {dr : Drawn} {t : Nat} {os : OsState} {f : Addr} {mg mb : Str → Option Value} {E : Value → Shared → Prop} {Q : Value → Shared → Prop}
def ordS (a b : Str) : Int := b2i (decide (b.cps.toList < a.cps.toList)) - b2i (decide (a.cps.toList < b.cps.toList))
theorem c_strcoll {a b : Str} {ta tb : Tok} {n : Nat} (Gb : Glb mg mb h) (hf : IsFn (D 1) h f) (hR : Rm A n)
    (k : ∀ h' t' tk, Keeps h h' → Q (.int (ordS a b) tk) ⟨h', g, dr, t', os⟩) :
    W prog w A (call (.ref f) [.str a ta, .str b tb]) Q E ⟨h, g, dr, t, os⟩ := by
  refine enterF fn1 Gb hf hR ?_
  intro cd L h₁ t₁ S
  refine w_cons ?_
  refine w_ret ?_
  refine w_binop ?_
  refine w_cmp ?_
  refine w_ld fn1.cx S 0 ?_
  refine w_ld fn1.cx S 1 ?_
  refine w_sgt ?_
  refine w_cmp ?_
  refine w_ld fn1.cx S 0 ?_
  refine w_ld fn1.cx S 1 ?_
  refine w_slt ?_
  refine w_subB ?_
  intro u t'
  exact k _ _ _ S.fr.keep
end
end Mine
namespace Mine
theorem fn10 : Fn (D 10) ["first", "second", "turn"] ["behind", "order"] ["_strcoll", "isinstance", "bool", "int"] := Fn.of (by decide +kernel)
def beh (k : Int) : Str := if k = 0 then "" else if k = 1 then "x" else "\""
def sgn (a b : Int) : Int := if a < b then -1 else if a = b then 0 else 1
def ordR (a b k : Int) : Int := if k = 1 then -(ordS (Txt.mul "\\" a ++ beh k) (Txt.mul "\\" b ++ beh k)) else ordS (Txt.mul "\\" a ++ beh k) (Txt.mul "\\" b ++ beh k)
theorem ordS_in (a b : Str) : ([-1, 0, 1] : List Int).contains (ordS a b) = true := by
  unfold ordS
  cases decide (b.cps.toList < a.cps.toList) <;> cases decide (a.cps.toList < b.cps.toList) <;> decide
theorem ordR_all : ∀ a ∈ List.range 17, ∀ b ∈ List.range 17, ∀ k ∈ List.range 3, ordR (a : Int) (b : Int) (k : Int) = sgn (a : Int) (b : Int) := by decide +kernel
theorem ordR_eq {a b k : Int} (a0 : 0 ≤ a) (a1 : a ≤ 16) (b0 : 0 ≤ b) (b1 : b ≤ 16) (k0 : 0 ≤ k) (k1 : k < 3) : ordR a b k = sgn a b := by
  have := ordR_all a.toNat (by rw [List.mem_range]; omega) b.toNat (by rw [List.mem_range]; omega) k.toNat (by rw [List.mem_range]; omega)
  rw [Int.toNat_of_nonneg a0, Int.toNat_of_nonneg b0, Int.toNat_of_nonneg k0] at this
  exact this
theorem bs_len : (Str.ofString "\\").length = 1 := by decide +kernel
theorem sp_len : (Str.ofString " ").length = 1 := by decide +kernel
theorem mul_len {x : Str} {a : Int} (hx : x.length = 1) (a0 : 0 ≤ a) : (Txt.mul x a).length = a.toNat := by
  have := len_mul x a
  rw [hx] at this
  rw [if_neg (by simp only [decide_eq_true_eq]; omega)] at this
  omega
theorem mulOk1 {x : Str} {a : Int} (hx : x.length = 1) (a0 : 0 ≤ a) (a1 : a ≤ 100) : MulOk x a := mulOk_of 1 100 (by omega) (by omega) (by omega) (by omega) (by omega)
theorem beh_len (k : Int) : (beh k).length ≤ 1 := by
  unfold beh
  split
  · decide +kernel
  · split <;> decide +kernel

section
variable {prog : Program} {w : World} {A : Around} {h : Heap} {g : Array GenState} {dr : Drawn} {t : Nat} {os : OsState} {f : Addr} {mg mb : Str → Option Value} {E : Value → Shared → Prop} {Q : Value → Shared → Prop}
theorem c_order {a b c : Int} {ta tb tc : Tok} {n : Nat} (Gb : Glb mg mb h) (hf : IsFn (D 10) h f) (hR : Rm A (n + 1)) (a0 : 0 ≤ a) (a1 : a ≤ 16) (b0 : 0 ≤ b) (b1 : b ≤ 16)
    (k : ∀ h' t' tk, Keeps h h' → Q (.int (sgn a b) tk) ⟨h', g, dr, t', os⟩) :
    W prog w A (call (.ref f) [.int a ta, .int b tb, .int c tc]) Q E ⟨h, g, dr, t, os⟩ := by
  refine enterF fn10 Gb hf hR ?_
  intro cd L h₁ t₁ S
  have hR' := hR.deeper (envOf (D 10).name (D 10).scope L f cd)
  have m0 : 0 ≤ c.fmod 3 := Int.fmod_nonneg_of_pos c (by omega)
  have m1 : c.fmod 3 < 3 := Int.fmod_lt_of_pos c (by omega)
  have zA := mul_len bs_len a0
  have zB := mul_len bs_len b0
  have zC := beh_len (c.fmod 3)
  refine w_cons (w_assign (w_item (w_list (w_args ?_))))
  refine w_str fun u1 t1 => w_args (w_str fun u2 t2 => w_args (w_str fun u3 t3 => w_args0 ?_))
  refine w_newlist S (small (Nat.le_of_ble_eq_true rfl)) fun l h₂ S => ?_
  refine w_binop (w_ld fn10.cx S 2 (w_int fun u4 t4 => w_mod (by decide) fun u5 t5 => ?_))
  obtain ⟨u6, hv⟩ : ∃ u6, [Value.str "" u1, .str "x" u2, .str "\"" u3][(c.fmod 3).toNat]? = some (Value.str (beh (c.fmod 3)) u6) := by
    generalize c.fmod 3 = k at m0 m1
    obtain rfl | rfl | rfl : k = 0 ∨ k = 1 ∨ k = 2 := by omega
    · exact ⟨u1, rfl⟩
    · exact ⟨u2, rfl⟩
    · exact ⟨u3, rfl⟩
  refine w_li (isList_of (lget S 0 rfl)) m0 (by omega) hv ?_
  refine w_st fn10.cx S 3 fun h₃ t6 S => ?_
  refine w_cons (w_assign (w_call fn10.cx S Gb 1 fun b' => ?_))
  refine w_args (w_binop (w_binop (w_str fun u7 t7 => w_ld fn10.cx S 0 ?_)))
  refine w_smul (mulOk1 bs_len a0 (by omega)) fun u8 t8 => ?_
  refine w_ld fn10.cx S 3 ?_
  refine w_sadd (small (by omega)) fun u9 t9 => ?_
  refine w_args (w_binop (w_binop (w_str fun u7 t7 => w_ld fn10.cx S 1 ?_)))
  refine w_smul (mulOk1 bs_len b0 (by omega)) fun u8 t8 => ?_
  refine w_ld fn10.cx S 3 ?_
  refine w_sadd (small (by omega)) fun u10 t10 => w_args0 ⟨S.fr.keep, fun hf' Gb' => ?_⟩
  refine c_strcoll Gb' hf' hR' fun h₄ t11 u11 K => ?_
  have S := lkeeps S K
  generalize ho : ordS (Txt.mul (Str.ofString "\\") a ++ beh (c.fmod 3)) (Txt.mul (Str.ofString "\\") b ++ beh (c.fmod 3)) = od
  refine w_st fn10.cx S 4 fun h₅ t12 S => ?_
  refine w_cons (w_if (w_tor (w_tplain (w_callb fn10.cx S Gb bo_isinstance ?_))))
  refine w_args (w_ld fn10.cx S 4 (w_args (w_bu fn10.cx S Gb bo_bool (w_args0 ?_))))
  refine w_isi_ib fun t13 => w_tbool ?_
  refine w_tor (w_tnot (w_tplain (w_callb fn10.cx S Gb bo_isinstance ?_)))
  refine w_args (w_ld fn10.cx S 4 (w_args (w_bu fn10.cx S Gb bo_int (w_args0 ?_))))
  refine w_isi_ii fun t14 => w_tbool ?_
  refine w_tor (w_tcmp (w_ld fn10.cx S 4 (w_tuple (w_args (w_unary (w_int fun u12 t15 => w_neg fun u13 t16 => ?_))))))
  refine w_args (w_int fun u14 t17 => w_args (w_int fun u15 t18 => w_args0 ?_))
  refine w_newtuple S (small (Nat.le_of_ble_eq_true rfl)) fun c' h₆ S => ?_
  refine w_notin_tup [(-1, u13), (0, u14), (1, u15)] hR' (lget S 0 rfl) ?_
  have hin : (List.map (fun x => x.fst) [((-1 : Int), u13), (0, u14), (1, u15)]).contains od = true := by rw [← ho]; exact ordS_in _ _
  rw [hin]
  refine w_tbool ?_
  refine w_tor0 ?_
  refine w_nil ?_
  refine w_cons (w_ret (w_ifexp (w_tcmp (w_binop (w_ld fn10.cx S 2 (w_int fun u16 t19 => w_mod (by decide) fun u17 t20 => ?_))))))
  refine w_int fun u18 t21 => w_eq (w_tbool ?_)
  have e := ordR_eq a0 a1 b0 b1 m0 m1
  unfold ordR at e
  rw [ho] at e
  by_cases h1 : c.fmod 3 = 1
  · rw [if_pos h1] at e
    rw [h1]
    refine w_unary (w_ld fn10.cx S 4 (w_neg fun u19 t22 => ?_))
    rw [e]
    exact k _ _ _ S.fr.keep
  · rw [if_neg h1] at e
    have : (c.fmod 3 == 1) = false := by simpa using h1
    rw [this]
    refine w_ld fn10.cx S 4 ?_
    rw [e]
    exact k _ _ _ S.fr.keep
end
end Mine
namespace Mine
abbrev N4 : List Str := ["s", "amount", "lpos", "rpos"]
theorem fn4 : Fn (D 4) ["s", "amount"] ["lpos", "rpos"] ["len"] := Fn.of (by decide +kernel)
def sp (n b : Nat) : Str := ⟨(List.replicate n 32 ++ 120 :: List.replicate b 32).toArray⟩
theorem sp_length (n b : Nat) : (sp n b).length = n + 1 + b := by
  show (List.replicate n 32 ++ 120 :: List.replicate b 32).toArray.size = _
  rw [List.size_toArray, List.length_append, List.length_cons, List.length_replicate, List.length_replicate]; omega
theorem sp_at {n b i : Nat} (hi : i < n + 1 + b) : (sp n b).cps[i]? = some (if i = n then 120 else 32) := by
  show (List.replicate n 32 ++ 120 :: List.replicate b 32).toArray[i]? = _
  rw [List.getElem?_toArray]
  by_cases h1 : i < n
  · rw [List.getElem?_append_left (by rw [List.length_replicate]; exact h1), List.getElem?_replicate, if_pos h1, if_neg (by omega)]
  · rw [List.getElem?_append_right (by rw [List.length_replicate]; omega), List.length_replicate]
    by_cases h2 : i = n
    · subst h2
      rw [Nat.sub_self, if_pos rfl]; rfl
    · rw [if_neg h2]
      obtain ⟨j, hj⟩ : ∃ j, i - n = j + 1 := ⟨i - n - 1, by omega⟩
      rw [hj, List.getElem?_cons_succ, List.getElem?_replicate, if_pos (by omega)]
theorem sp_idx {n b : Nat} {a : Int} {i : Nat} (ha : a = i) (hi : i < n + 1 + b) : (seqIndex? a (sp n b).length).bind ((sp n b).cps[·]?) = some (if i = n then 120 else 32) := by
  subst ha
  have : seqIndex? (i : Int) (sp n b).length = some i := by
    unfold seqIndex?
    rw [sp_length]
    have e1 : ¬ ((i : Int) < 0) := by omega
    simp only [e1, if_false]
    rw [if_pos (by rw [Bool.and_eq_true, decide_eq_true_eq, decide_eq_true_eq]; omega), Int.toNat_natCast]
  rw [this]
  exact sp_at hi
theorem ch_sp : ((⟨#[32]⟩ : Str) == (" " : Str)) = true := by decide +kernel
theorem ch_x : ((⟨#[120]⟩ : Str) == (" " : Str)) = false := by decide +kernel
theorem sp_slice (n b k : Nat) : Txt.slice (sp n b) (some ((min k n : Nat) : Int)) (some ((n + b - min (k - n) b + 1 : Nat) : Int)) = sp (n - k) (b - (k - n)) := by
  have e := StrLaws.sliceText_nat (sp n b) (a := min k n) (b := n + b - min (k - n) b + 1) (by omega) (by rw [sp_length]; omega)
  refine Eq.trans (show _ = StrLaws.sliceText (sp n b) _ _ from rfl) (e.trans ?_)
  unfold sp
  rw [List.drop_append_of_le_length (by rw [List.length_replicate]; omega), List.drop_replicate, List.take_append, List.take_replicate, List.length_replicate]
  have e1 : min (n + b - min (k - n) b + 1 - min k n) (n - min k n) = n - k := by omega
  have e2 : n + b - min (k - n) b + 1 - min k n - (n - min k n) = (b - (k - n)) + 1 := by omega
  rw [e1, e2, List.take_succ_cons, List.take_replicate]
  have e3 : min (b - (k - n)) b = b - (k - n) := by omega
  rw [e3]

section
variable {prog : Program} {w : World} {A : Around} {h : Heap} {g : Array GenState} {dr : Drawn} {t : Nat} {os : OsState} {f : Addr} {mg mb : Str → Option Value} {E : Value → Shared → Prop} {Q : Value → Shared → Prop}
theorem c_strip {n b k : Nat} {ts tk : Tok} {j : Nat} (Gb : Glb mg mb h) (hf : IsFn (D 4) h f) (hR : Rm A (j + 1)) (hn : n ≤ 16) (hb : b ≤ 3) (hk : k ≤ 16)
    (q : ∀ h' t' u, Keeps h h' → Q (.str (sp (n - k) (b - (k - n))) u) ⟨h', g, dr, t', os⟩) :
    W prog w A (call (.ref f) [.str (sp n b) ts, .int k tk]) Q E ⟨h, g, dr, t, os⟩ := by
  refine enterF fn4 Gb hf hR ?_
  intro cd L h₁ t₁ S
  have hR' := hR.deeper (envOf (D 4).name (D 4).scope L f cd)
  refine w_cons (w_assign (w_int fun u1 t1 => ?_))
  refine w_st fn4.cx S 2 fun h₂ t2 S => ?_
  refine w_then (fun s => ∃ h' t' u1 u2, s = ⟨h', g, dr, t', os⟩ ∧ Led h L (loc N4 [some (.str (sp n b) ts), some (.int ((k - n : Nat) : Int) u1), some (.int ((min k n : Nat) : Int) u2), none]) h' [])
    (w_while (fun a s => ∃ i h' t' u1 u2, s = ⟨h', g, dr, t', os⟩ ∧ i + a = k ∧ i ≤ n ∧ Led h L (loc N4 [some (.str (sp n b) ts), some (.int (a : Int) u1), some (.int (i : Int) u2), none]) h' []) ?_ k ⟨0, h₂, t2, tk, u1, rfl, by omega, by omega, S⟩) ?_
  · rintro a s ⟨i, h', t', u1, u2, rfl, hik, hin, S⟩
    refine w_tand (w_tplain (w_ld fn4.cx S 1 ?_))
    refine w_tint ?_
    by_cases ha : a = 0
    · subst ha
      have e1 : k - n = 0 := by omega
      have e2 : min k n = i := by omega
      exact ⟨rfl, h', t', u1, u2, rfl, by rw [e1, e2]; exact S⟩
    have : ((a : Int) != 0) = true := by simpa using ha
    rw [this, if_pos rfl]
    refine w_tand (w_tcmp (w_item (w_ld fn4.cx S 0 (w_ld fn4.cx S 2 ?_))))
    refine w_si (by omega) (sp_idx rfl (by omega)) fun u3 t3 => ?_
    refine w_str fun u4 t4 => w_seq (w_tbool ?_)
    by_cases hi : i = n
    · rw [if_pos hi, ch_x]
      subst hi
      have e1 : k - i = a := by omega
      have e2 : min k i = i := by omega
      exact ⟨rfl, h', t4, u1, u2, rfl, by rw [e1, e2]; exact S⟩
    · rw [if_neg hi, ch_sp, if_pos rfl]
      refine w_tand0 ?_
      rw [if_pos rfl]
      refine w_cons (w_aug (w_ldn fn4.cx S 2 (w_int fun u5 t5 => w_iadd fun u6 t6 => ?_)))
      refine w_st fn4.cx S 2 fun h₃ t7 S => ?_
      refine w_cons (w_aug (w_ldn fn4.cx S 1 (w_int fun u7 t8 => w_isub fun u8 t9 => ?_)))
      refine w_st fn4.cx S 1 fun h₄ t10 S => ?_
      refine w_nil ⟨a - 1, by omega, i + 1, h₄, t10, u8, u6, rfl, by omega, by omega, ?_⟩
      have e1 : ((a - 1 : Nat) : Int) = (a : Int) - 1 := by omega
      rw [e1]
      exact S
  rintro s ⟨h₃, t3, u3, u4, rfl, S⟩
  refine w_cons (w_assign (w_binop (w_callb fn4.cx S Gb bo_len (w_args (w_ld fn4.cx S 0 (w_args0 ?_))))))
  refine w_lens (small (by rw [sp_length]; omega)) fun u5 t5 => ?_
  refine w_int fun u6 t6 => w_sub fun u7 t7 => ?_
  refine w_st fn4.cx S 3 fun h₄ t8 S => ?_
  rw [sp_length] at S
  refine w_then (fun s => ∃ h' t' u1 u2 u3, s = ⟨h', g, dr, t', os⟩ ∧ Led h L (loc N4 [some (.str (sp n b) ts), some u1, some (.int ((min k n : Nat) : Int) u2), some (.int ((n + b - min (k - n) b : Nat) : Int) u3)]) h' [])
    (w_while (fun a s => ∃ i h' t' u1 u2 u3, s = ⟨h', g, dr, t', os⟩ ∧ i + a = k - n ∧ i ≤ b ∧ Led h L (loc N4 [some (.str (sp n b) ts), some (.int (a : Int) u1), some (.int ((min k n : Nat) : Int) u2), some (.int ((n + b - i : Nat) : Int) u3)]) h' []) ?_ (k - n) ⟨0, h₄, t8, u3, u4, u7, rfl, by omega, by omega, ?_⟩) ?_
  · rintro a s ⟨i, h', t', u1, u2, u3, rfl, hik, hin, S⟩
    refine w_tand (w_tplain (w_ld fn4.cx S 1 ?_))
    refine w_tint ?_
    by_cases ha : a = 0
    · subst ha
      have e2 : min (k - n) b = i := by omega
      exact ⟨rfl, h', t', _, u2, u3, rfl, by rw [e2]; exact S⟩
    have : ((a : Int) != 0) = true := by simpa using ha
    rw [this, if_pos rfl]
    refine w_tand (w_tcmp (w_item (w_ld fn4.cx S 0 (w_ld fn4.cx S 3 ?_))))
    refine w_si (by omega) (sp_idx rfl (by omega)) fun u3' t3 => ?_
    refine w_str fun u4 t4 => w_seq (w_tbool ?_)
    by_cases hi : i = b
    · have hi' : n + b - i = n := by omega
      rw [if_pos hi', ch_x]
      have e2 : min (k - n) b = i := by omega
      exact ⟨rfl, h', t4, _, u2, u3, rfl, by rw [e2]; exact S⟩
    · have hi' : ¬ n + b - i = n := by omega
      rw [if_neg hi', ch_sp, if_pos rfl]
      refine w_tand0 ?_
      rw [if_pos rfl]
      refine w_cons (w_aug (w_ldn fn4.cx S 3 (w_int fun u5 t5 => w_isub fun u6 t6 => ?_)))
      refine w_st fn4.cx S 3 fun h₃ t7 S => ?_
      refine w_cons (w_aug (w_ldn fn4.cx S 1 (w_int fun u7 t8 => w_isub fun u8 t9 => ?_)))
      refine w_st fn4.cx S 1 fun h₄ t10 S => ?_
      refine w_nil ⟨a - 1, by omega, i + 1, h₄, t10, u8, u2, u6, rfl, by omega, by omega, ?_⟩
      have e1 : ((a - 1 : Nat) : Int) = (a : Int) - 1 := by omega
      have e2 : ((n + b - (i + 1) : Nat) : Int) = ((n + b - i : Nat) : Int) - 1 := by omega
      rw [e1, e2]
      exact S
  · have e2 : ((n + b - 0 : Nat) : Int) = ((n + 1 + b : Nat) : Int) - 1 := by omega
    rw [e2]
    exact S
  rintro s ⟨h₅, t9, v1, u8, u9, rfl, S⟩
  refine w_cons (w_ret (w_item (w_ld fn4.cx S 0 (w_slice (w_p1 (w_ld fn4.cx S 2 (w_p1 (w_binop (w_ld fn4.cx S 3 (w_int fun u10 t10 => w_add fun u11 t11 => ?_)))))))))) 
  refine w_p0 ?_
  have S' := lkeeps S (keeps_push h₅ { cls := .type "slice", data := .fields #[.int ((min k n : Nat) : Int) u8, .int (((n + b - min (k - n) b : Nat) : Int) + 1) u11, .none] })
  refine w_sslice (lo := some (((min k n : Nat) : Int), u8)) (hi := some (((n + b - min (k - n) b : Nat) : Int) + 1, u11)) ⟨_, Heap.get?_push_size _ rfl, rfl, rfl⟩ (small (by rw [sp_length]; omega)) fun u12 t12 => ?_
  have e := sp_slice n b k
  have e2 : ((n + b - min (k - n) b + 1 : Nat) : Int) = ((n + b - min (k - n) b : Nat) : Int) + 1 := by omega
  rw [e2] at e
  show Q (.str (Txt.slice (sp n b) (some ((min k n : Nat) : Int)) (some (((n + b - min (k - n) b : Nat) : Int) + 1))) u12) _
  rw [e]
  exact q _ _ _ S'.fr.keep
end
end Mine
namespace Mine
abbrev N11 : List Str := ["number", "amount", "behind", "left", "place", "lacking"]
theorem fn11 : Fn (D 11) ["number", "amount", "behind"] ["left", "place", "lacking"] ["_strip_padding", "max"] := Fn.of (by decide +kernel)
def rp (n : Nat) : Str := ⟨(List.replicate n 32).toArray⟩
theorem mul_rp : ∀ n ∈ List.range 17, Txt.mul " " (n : Int) = rp n := by decide +kernel
theorem rp_length (n : Nat) : (rp n).length = n := by
  show (List.replicate n 32).toArray.size = _
  rw [List.size_toArray, List.length_replicate]
theorem one_x : ("x" : Str).length = 1 := by decide +kernel
theorem rp_x (n b : Nat) : rp n ++ ("x" : Str) ++ rp b = sp n b := by
  apply Str.ext'
  rw [Str.cps_append, Str.cps_append]
  have : ("x" : Str).cps = [120].toArray := by decide +kernel
  rw [this]
  show (List.replicate n 32).toArray ++ [120].toArray ++ (List.replicate b 32).toArray = (List.replicate n 32 ++ 120 :: List.replicate b 32).toArray
  simp only [List.append_toArray, List.append_assoc, List.singleton_append]
theorem x_rp (b : Nat) : ("x" : Str) ++ rp b = sp 0 b := by
  have := rp_x 0 b
  rw [← this]
  congr 1
theorem sp_occ : ∀ n ∈ List.range 17, ∀ b ∈ List.range 4, Builtin.Str.occurrences (sp n b) "x" 0 (sp n b).length 1 = [n] := by decide +kernel
theorem sp_from (n b : Nat) : Txt.slice (sp n b) (some (n : Int)) none = sp 0 b := by
  have e := StrLaws.sliceText_from (x := sp n b) (i := (n : Int)) ⟨by omega, by
    have := sp_length n b
    have h2 : (sp n b).cps.toList.length = (sp n b).length := by rw [Array.length_toList]; rfl
    omega⟩
  refine Eq.trans (show _ = StrLaws.sliceText (sp n b) _ _ from rfl) (e.trans ?_)
  have h2 : (sp n b).cps.toList.length = n + 1 + b := by rw [Array.length_toList]; exact sp_length n b
  rw [h2]
  unfold sp
  rw [Int.toNat_natCast, List.toList_toArray, List.drop_left' (by rw [List.length_replicate]), List.take_of_length_le (by rw [List.length_cons, List.length_replicate]; omega)]
  rfl
section
variable {prog : Program} {w : World} {A : Around} {h : Heap} {g : Array GenState} {dr : Drawn} {t : Nat} {os : OsState} {f : Addr} {mg mb : Str → Option Value} {E : Value → Shared → Prop} {Q : Value → Shared → Prop}
theorem c_rest {n k b : Nat} {tn tk tb : Tok} {j : Nat} (Gb : Glb mg mb h) (hf : IsFn (D 11) h f) (hR : Rm A (j + 2)) (hn : n ≤ 16) (hb : b ≤ 3) (hk : k ≤ 16)
    (q : ∀ h' t' u, Keeps h h' → Q (.int ((n - k : Nat) : Int) u) ⟨h', g, dr, t', os⟩) :
    W prog w A (call (.ref f) [.int n tn, .int k tk, .int b tb]) Q E ⟨h, g, dr, t, os⟩ := by
  refine enterF fn11 Gb hf hR ?_
  intro cd L h₁ t₁ S
  have hR' := hR.deeper (envOf (D 11).name (D 11).scope L f cd)
  have rn := mul_rp n (by rw [List.mem_range]; omega)
  have rb := mul_rp b (by rw [List.mem_range]; omega)
  refine w_cons (w_assign (w_call fn11.cx S Gb 4 fun b' => ?_))
  refine w_args (w_binop (w_binop (w_binop (w_str fun u1 t1 => w_ld fn11.cx S 0 ?_))))
  refine w_smul (mulOk1 sp_len (by omega) (by omega)) fun u2 t2 => ?_
  rw [rn]
  refine w_str fun u3 t3 => w_sadd (small (by rw [rp_length, one_x]; omega)) fun u4 t4 => ?_
  refine w_binop (w_str fun u5 t5 => w_ld fn11.cx S 2 ?_)
  refine w_smul (mulOk1 sp_len (by omega) (by omega)) fun u6 t6 => ?_
  rw [rb]
  refine w_sadd (small (by rw [Str.length_append, rp_length, rp_length, one_x]; omega)) fun u7 t7 => ?_
  rw [rp_x]
  refine w_args (w_ld fn11.cx S 1 (w_args0 ⟨S.fr.keep, fun hf' Gb' => ?_⟩))
  refine c_strip Gb' hf' hR' hn hb hk fun h₂ t8 u8 K => ?_
  have S := lkeeps S K
  refine w_st fn11.cx S 3 fun h₃ t9 S => ?_
  refine w_cons (w_assign (w_smeth1 F.slot_str_index F.type_str_index (w_ld fn11.cx S 3 ⟨_, _, rfl, w_str fun u9 t10 => ?_⟩)))
  refine w_index (sp_occ (n - k) (by rw [List.mem_range]; omega) (b - (k - n)) (by rw [List.mem_range]; omega)) fun u10 t11 => ?_
  refine w_st fn11.cx S 4 fun h₄ t12 S => ?_
  refine w_cons (w_assign (w_callb fn11.cx S Gb bo_max (w_args (w_int fun u11 t13 => ?_))))
  refine w_args (w_binop (w_ld fn11.cx S 1 (w_ld fn11.cx S 0 (w_sub fun u12 t14 => w_args0 ?_))))
  refine w_max S hR' fun h₅ u13 t15 S => ?_
  have e1 : (if (k : Int) - (n : Int) > 0 then (k : Int) - (n : Int) else 0) = ((k - n : Nat) : Int) := by split <;> omega
  rw [e1]
  refine w_st fn11.cx S 5 fun h₆ t16 S => ?_
  refine w_cons (w_ret (w_ifexp (w_tcmp (w_item (w_ld fn11.cx S 3 (w_slice (w_p1 (w_ld fn11.cx S 4 (w_p0 (w_p0 ?_)))))))))) 
  have S := lkeeps S (keeps_push h₆ { cls := .type "slice", data := .fields #[.int ((n - k : Nat) : Int) u10, .none, .none] })
  refine w_sslice (lo := some (((n - k : Nat) : Int), u10)) (hi := none) ⟨_, Heap.get?_push_size _ rfl, rfl, rfl⟩ (small (by rw [sp_length]; omega)) fun u14 t17 => ?_
  have e2 : Txt.slice (sp (n - k) (b - (k - n))) (Option.map (fun x => x.1) (some (((n - k : Nat) : Int), u10))) (Option.map (fun x => x.1) (none : Option (Int × Tok))) = sp 0 (b - (k - n)) := sp_from _ _
  rw [e2]
  refine w_binop (w_str fun u15 t18 => w_binop (w_str fun u16 t19 => ?_))
  refine w_callb fn11.cx S Gb bo_max (w_args (w_int fun u17 t20 => w_args (w_binop (w_ld fn11.cx S 2 (w_ld fn11.cx S 5 (w_sub fun u18 t21 => w_args0 ?_))))))
  refine w_max S hR' fun h₇ u19 t22 S => ?_
  have e3 : (if (b : Int) - ((k - n : Nat) : Int) > 0 then (b : Int) - ((k - n : Nat) : Int) else 0) = ((b - (k - n) : Nat) : Int) := by split <;> omega
  rw [e3]
  refine w_smul (mulOk1 sp_len (by omega) (by omega)) fun u20 t23 => ?_
  rw [mul_rp (b - (k - n)) (by rw [List.mem_range]; omega)]
  refine w_sadd (small (by rw [rp_length, one_x]; omega)) fun u21 t24 => ?_
  rw [x_rp]
  refine w_seq (w_tbool ?_)
  rw [beq_self_eq_true, if_pos rfl]
  refine w_ld fn11.cx S 4 ?_
  exact q _ _ _ S.fr.keep
end
end Mine
namespace Mine
abbrev N7 : List Str := ["s", "res", "part", "escape", "quote", "cur"]
theorem fn7 : Fn (D 7) ["s"] ["res", "part", "escape", "quote", "cur"] [] := Fn.of (by decide +kernel)
structure Hs where
  res : List Str
  part : Str
  esc : Bool
  quo : Bool
def hstep (s : Hs) (c : Nat) : Hs :=
  if s.esc = true then ⟨s.res, s.part ++ ⟨#[c]⟩, false, s.quo⟩
  else if s.quo = true then
    if c = 92 then ⟨s.res, s.part, true, true⟩
    else if c = 34 then ⟨s.res, s.part ++ ⟨#[c]⟩, false, false⟩
    else ⟨s.res, s.part ++ ⟨#[c]⟩, false, true⟩
  else if c = 44 then ⟨s.res ++ [s.part], "", false, false⟩
  else if c = 34 then ⟨s.res, s.part ++ ⟨#[c]⟩, false, true⟩
  else ⟨s.res, s.part ++ ⟨#[c]⟩, false, false⟩
def hini : Hs := ⟨[], "", false, false⟩
def hs (x : Str) (i : Nat) : Hs := (x.cps.toList.take i).foldl hstep hini
def httpParts (x : Str) : List Str := if (hs x x.length).part.length = 0 then (hs x x.length).res else (hs x x.length).res ++ [(hs x x.length).part]
def httpList (x : Str) : List Str := (httpParts x).map Txt.strip
theorem hs_succ {x : Str} {i c : Nat} (hc : x.cps[i]? = some c) : hs x (i + 1) = hstep (hs x i) c := by
  unfold hs
  have : x.cps.toList[i]? = some c := by rw [Array.getElem?_toList]; exact hc
  rw [List.take_add_one, this]
  simp only [Option.toList_some, List.foldl_append, List.foldl_cons, List.foldl_nil]
theorem one_ch (c : Nat) : (⟨#[c]⟩ : Str).length = 1 := rfl
theorem ch_bs (c : Nat) : ((⟨#[c]⟩ : Str) == ("\\" : Str)) = decide (c = 92) := by
  have : ("\\" : Str) = ⟨#[92]⟩ := by decide +kernel
  rw [this, Bool.eq_iff_iff]
  simp only [beq_iff_eq, decide_eq_true_eq, Str.mk.injEq, Array.mk.injEq, List.cons.injEq, and_true]
theorem ch_dq (c : Nat) : ((⟨#[c]⟩ : Str) == ("\"" : Str)) = decide (c = 34) := by
  have : ("\"" : Str) = ⟨#[34]⟩ := by decide +kernel
  rw [this, Bool.eq_iff_iff]
  simp only [beq_iff_eq, decide_eq_true_eq, Str.mk.injEq, Array.mk.injEq, List.cons.injEq, and_true]
theorem ch_cm (c : Nat) : ((⟨#[c]⟩ : Str) == ("," : Str)) = decide (c = 44) := by
  have : ("," : Str) = ⟨#[44]⟩ := by decide +kernel
  rw [this, Bool.eq_iff_iff]
  simp only [beq_iff_eq, decide_eq_true_eq, Str.mk.injEq, Array.mk.injEq, List.cons.injEq, and_true]
theorem empty_len : ("" : Str).length = 0 := by decide +kernel
/-- the sizes at each turn -/
structure Hz (s : Hs) (i : Nat) : Prop where
  part : s.part.length ≤ i
  res : s.res.length ≤ i
  all : ∀ p ∈ s.res, p.length ≤ i
theorem Hz.step {s : Hs} {i : Nat} (z : Hz s i) (c : Nat) : Hz (hstep s c) (i + 1) := by
  have a1 : (s.part ++ ⟨#[c]⟩ : Str).length ≤ i + 1 := by rw [Str.length_append, one_ch]; have := z.part; omega
  have a2 : ∀ p ∈ s.res, p.length ≤ i + 1 := fun p hp => Nat.le_succ_of_le (z.all p hp)
  have a3 := z.res
  have a4 := z.part
  unfold hstep
  split
  · exact ⟨a1, by simp only; omega, a2⟩
  · split
    · split
      · exact ⟨by simp only; omega, by simp only; omega, a2⟩
      · split
        · exact ⟨a1, by simp only; omega, a2⟩
        · exact ⟨a1, by simp only; omega, a2⟩
    · split
      · refine ⟨by simp only [empty_len]; omega, by simp only [List.length_append, List.length_cons, List.length_nil]; omega, fun p hp => ?_⟩
        rcases List.mem_append.mp hp with hp | hp
        · exact a2 p hp
        · rw [List.mem_singleton.mp hp]; omega
      · split
        · exact ⟨a1, by simp only; omega, a2⟩
        · exact ⟨a1, by simp only; omega, a2⟩

section
variable {prog : Program} {w : World} {A : Around} {h : Heap} {g : Array GenState} {dr : Drawn} {t : Nat} {os : OsState} {f : Addr} {mg mb : Str → Option Value} {E : Value → Shared → Prop} {Q : Value → Shared → Prop}
theorem w_assign2 {t₁ t₂ value : PySem.Expr} {pos : Pos} {env : Env} {s : Shared} {R : Flow → Shared → Prop} (h : W prog w A (eval value env) (fun v s₁ => W prog w A (assign t₁ env v) (fun _ s₂ => W prog w A (assign t₂ env v) (fun _ => R .next) E s₂) E s₁) E s)
    (he : (assignEach [t₁, t₂] env).map (·.2) = [assign t₁ env, assign t₂ env] := by rfl) (hw : swappedStores [t₁, t₂] value env = pure none := by rfl) : W prog w A (exec (.Assign [t₁, t₂] value pos) env) R E s :=
  ⟨wpAny_Assign_two (up h fun _ _ h₁ => up h₁ fun _ _ h₂ => h₂.out) he hw⟩
theorem w_tstr {x : Str} {tx : Tok} {B : Bool → Shared → Prop} (hx : x.length ≤ sizeLine) (q : ∀ t', B ((x.length : Int) != 0) ⟨h, g, dr, t', os⟩) : W prog w A (truthy (.str x tx)) B E ⟨h, g, dr, t, os⟩ :=
  ⟨PySem.P.truthy_str (s := ⟨h, g, dr, t, os⟩) (by rw [sizeLine_eq] at hx; omega) (q _)⟩

theorem c_http {x : Str} {tx : Tok} {j : Nat} (Gb : Glb mg mb h) (hf : IsFn (D 7) h f) (hR : Rm A (j + 1)) (hx : x.length ≤ 900) (ha : x.cps.all (· < 128) = true)
    (q : ∀ h' t' b o l, Keeps h h' → h.get? b = none → h'.get? b = some o → IsLs o (strValues l) → l.map (·.1) = httpList x → Q (.ref b) ⟨h', g, dr, t', os⟩) :
    W prog w A (call (.ref f) [.str x tx]) Q E ⟨h, g, dr, t, os⟩ := by
  refine enterF fn7 Gb hf hR ?_
  intro cd L h₁ t₁ S
  have hR' := hR.deeper (envOf (D 7).name (D 7).scope L f cd)
  refine w_cons (w_assign (w_list (w_args0 (w_newlist S (Nat.zero_le _) fun r h₂ S => ?_))))
  refine w_st fn7.cx S 1 fun h₃ t2 S => ?_
  refine w_cons (w_assign (w_str fun u1 t3 => ?_))
  refine w_st fn7.cx S 2 fun h₄ t4 S => ?_
  refine w_cons (w_assign2 (w_bool (w_asg ?_)))
  refine w_st fn7.cx S 3 fun h₅ t5 S => ?_
  refine w_asg ?_
  refine w_st fn7.cx S 4 fun h₆ t6 S => ?_
  refine w_then (fun s => ∃ h' t' oR l vc up, s = ⟨h', g, dr, t', os⟩ ∧ IsLs oR (strValues l) ∧ l.map (·.1) = (hs x x.length).res ∧ Hz (hs x x.length) x.length ∧
      Led h L (loc N7 [some (.str x tx), some (.ref r), some (.str (hs x x.length).part up), some (.bool (hs x x.length).esc), some (.bool (hs x x.length).quo), vc]) h' [(r, oR)])
    (w_for (w_ld fn7.cx S 0 (w_iter_str S ha fun c o h₇ S hc => c_for (fun n s => ∃ i h' t' o oR l vc up, s = ⟨h', g, dr, t', os⟩ ∧ i + n = x.length + 1 ∧ i ≤ x.length ∧ IsSI o x tx i ∧ IsLs oR (strValues l) ∧ l.map (·.1) = (hs x i).res ∧ Hz (hs x i) i ∧
      Led h L (loc N7 [some (.str x tx), some (.ref r), some (.str (hs x i).part up), some (.bool (hs x i).esc), some (.bool (hs x i).quo), vc]) h' [(c, o), (r, oR)]) ?_ (x.length + 1)
      ⟨0, h₇, t6, o, _, [], none, u1, rfl, by omega, by omega, hc, isLs_lst _ 0, rfl, ⟨by show ("" : Str).length ≤ 0; rw [empty_len]; omega, Nat.le_refl _, fun _ hp => nomatch hp⟩, S⟩))) ?_
  · rintro n s ⟨i, h', t', o, oR, l, vc, up', rfl, hin, hi, ho, hoR, hl, hz, S⟩
    by_cases he : i = x.length
    · have hx0 : x.cps[i]? = none := by rw [Array.getElem?_eq_none_iff]; show x.length ≤ i; omega
      refine w_end_str S hR' ho hx0 fun h₈ S => ?_
      subst he
      exact ⟨rfl, h₈, t', oR, l, vc, up', rfl, hoR, hl, hz, S⟩
    · obtain ⟨ch, hch⟩ : ∃ ch, x.cps[i]? = some ch := by
        have hlt : i < x.cps.size := by have : i < x.length := by omega
                                        exact this
        exact ⟨x.cps[i], Array.getElem?_eq_getElem hlt⟩
      have hsc := hs_succ hch
      have hz' := hz.step ch
      rw [← hsc] at hz'
      have hp := hz.part
      refine w_next_str S ho hch fun h₈ o₈ u2 t7 S ho => ?_
      refine w_asg ?_
      refine w_st fn7.cx S 5 fun h₉ t8 S => ?_
      refine w_cons (w_if (w_tplain (w_ld fn7.cx S 3 (w_tbool ?_))))
      cases hE : (hs x i).esc with
      | true =>
        rw [hE] at S
        rw [if_pos rfl]
        refine w_cons (w_aug (w_ldn fn7.cx S 2 (w_ld fn7.cx S 5 ?_)))
        refine w_siadd (small (by rw [one_ch]; omega)) fun u3 t9 => ?_
        refine w_st fn7.cx S 2 fun h₁₀ t10 S => ?_
        refine w_cons (w_assign (w_bool ?_))
        refine w_st fn7.cx S 3 fun h₁₁ t11 S => ?_
        refine w_cons (w_cont ?_)
        have e : hs x (i + 1) = ⟨(hs x i).res, (hs x i).part ++ ⟨#[ch]⟩, false, (hs x i).quo⟩ := by rw [hsc]; unfold hstep; rw [if_pos hE]
        refine ⟨n - 1, by omega, i + 1, h₁₁, t11, o₈, oR, l, some (.str ⟨#[ch]⟩ u2), u3, rfl, by omega, by omega, ho, hoR, ?_, hz', ?_⟩
        · rw [e]; exact hl
        · rw [e]; exact S
      | false =>
        rw [hE] at S
        rw [if_neg Bool.false_ne_true]
        refine w_nil ?_
        refine w_cons (w_if (w_tplain (w_ld fn7.cx S 4 (w_tbool ?_))))
        cases hQ : (hs x i).quo with
        | true =>
          rw [hQ] at S
          rw [if_pos rfl]
          refine w_cons (w_if (w_tcmp (w_ld fn7.cx S 5 (w_str fun u3 t9 => w_seq (w_tbool ?_)))))
          rw [ch_bs]
          by_cases h92 : ch = 92
          · rw [decide_eq_true h92, if_pos rfl]
            refine w_cons (w_assign (w_bool ?_))
            refine w_st fn7.cx S 3 fun h₁₀ t10 S => ?_
            refine w_cons (w_cont ?_)
            have e : hs x (i + 1) = ⟨(hs x i).res, (hs x i).part, true, true⟩ := by rw [hsc]; unfold hstep; rw [hE, hQ, if_neg Bool.false_ne_true, if_pos rfl, if_pos h92]
            refine ⟨n - 1, by omega, i + 1, h₁₀, t10, o₈, oR, l, some (.str ⟨#[ch]⟩ u2), up', rfl, by omega, by omega, ho, hoR, ?_, hz', ?_⟩
            · rw [e]; exact hl
            · rw [e]; exact S
          · rw [decide_eq_false h92, if_neg Bool.false_ne_true]
            refine w_cons (w_if (w_tcmp (w_ld fn7.cx S 5 (w_str fun u3 t9 => w_seq (w_tbool ?_)))))
            rw [ch_dq]
            by_cases h34 : ch = 34
            · rw [decide_eq_true h34, if_pos rfl]
              refine w_cons (w_assign (w_bool ?_))
              refine w_st fn7.cx S 4 fun h₁₀ t10 S => ?_
              refine w_nil (w_nil ?_)
              refine w_cons (w_aug (w_ldn fn7.cx S 2 (w_ld fn7.cx S 5 ?_)))
              refine w_siadd (small (by rw [one_ch]; omega)) fun u3 t9 => ?_
              refine w_st fn7.cx S 2 fun h₁₁ t11 S => ?_
              refine w_cons (w_cont ?_)
              have e : hs x (i + 1) = ⟨(hs x i).res, (hs x i).part ++ ⟨#[ch]⟩, false, false⟩ := by rw [hsc]; unfold hstep; rw [hE, hQ, if_neg Bool.false_ne_true, if_pos rfl, if_neg h92, if_pos h34]
              refine ⟨n - 1, by omega, i + 1, h₁₁, t11, o₈, oR, l, some (.str ⟨#[ch]⟩ u2), u3, rfl, by omega, by omega, ho, hoR, ?_, hz', ?_⟩
              · rw [e]; exact hl
              · rw [e]; exact S
            · rw [decide_eq_false h34, if_neg Bool.false_ne_true]
              refine w_nil (w_nil ?_)
              refine w_cons (w_aug (w_ldn fn7.cx S 2 (w_ld fn7.cx S 5 ?_)))
              refine w_siadd (small (by rw [one_ch]; omega)) fun u3 t9 => ?_
              refine w_st fn7.cx S 2 fun h₁₁ t11 S => ?_
              refine w_cons (w_cont ?_)
              have e : hs x (i + 1) = ⟨(hs x i).res, (hs x i).part ++ ⟨#[ch]⟩, false, true⟩ := by rw [hsc]; unfold hstep; rw [hE, hQ, if_neg Bool.false_ne_true, if_pos rfl, if_neg h92, if_neg h34]
              refine ⟨n - 1, by omega, i + 1, h₁₁, t11, o₈, oR, l, some (.str ⟨#[ch]⟩ u2), u3, rfl, by omega, by omega, ho, hoR, ?_, hz', ?_⟩
              · rw [e]; exact hl
              · rw [e]; exact S
        | false =>
          rw [hQ] at S
          rw [if_neg Bool.false_ne_true]
          refine w_nil ?_
          refine w_cons (w_if (w_tcmp (w_ld fn7.cx S 5 (w_str fun u3 t9 => w_seq (w_tbool ?_)))))
          rw [ch_cm]
          by_cases h44 : ch = 44
          · rw [decide_eq_true h44, if_pos rfl]
            refine w_cons (w_expr (w_append (w_ld fn7.cx S 1 ⟨r, oR, _, rfl, lget S 1 rfl, hoR, w_ld fn7.cx S 2 ?_⟩)))
            have hlen : (strValues l).length ≤ 900 := by
              have a1 := hz.res
              have a2 : l.length = (hs x i).res.length := by rw [← hl, List.length_map]
              unfold strValues
              rw [List.length_map]; omega
            refine w_appendb S 1 rfl hoR (small (by omega)) fun h₁₀ oR' S hoR => ⟨fun a e => (nomatch e), ?_⟩
            refine w_cons (w_assign (w_str fun u4 t10 => ?_))
            refine w_st fn7.cx S 2 fun h₁₁ t11 S => ?_
            refine w_cons (w_cont ?_)
            have e : hs x (i + 1) = ⟨(hs x i).res ++ [(hs x i).part], "", false, false⟩ := by rw [hsc]; unfold hstep; rw [hE, hQ, if_neg Bool.false_ne_true, if_neg Bool.false_ne_true, if_pos h44]
            refine ⟨n - 1, by omega, i + 1, h₁₁, t11, o₈, oR', l ++ [((hs x i).part, up')], some (.str ⟨#[ch]⟩ u2), u4, rfl, by omega, by omega, ho, ?_, ?_, hz', ?_⟩
            · have : strValues (l ++ [((hs x i).part, up')]) = strValues l ++ [Value.str (hs x i).part up'] := by unfold strValues; rw [List.map_append]; rfl
              rw [this]; exact hoR
            · rw [e, List.map_append, hl]; rfl
            · rw [e]; exact S
          · rw [decide_eq_false h44, if_neg Bool.false_ne_true]
            refine w_nil ?_
            refine w_cons (w_if (w_tcmp (w_ld fn7.cx S 5 (w_str fun u3 t9 => w_seq (w_tbool ?_)))))
            rw [ch_dq]
            by_cases h34 : ch = 34
            · rw [decide_eq_true h34, if_pos rfl]
              refine w_cons (w_assign (w_bool ?_))
              refine w_st fn7.cx S 4 fun h₁₀ t10 S => ?_
              refine w_nil ?_
              refine w_cons (w_aug (w_ldn fn7.cx S 2 (w_ld fn7.cx S 5 ?_)))
              refine w_siadd (small (by rw [one_ch]; omega)) fun u3 t9 => ?_
              refine w_st fn7.cx S 2 fun h₁₁ t11 S => ?_
              refine w_nil ?_
              have e : hs x (i + 1) = ⟨(hs x i).res, (hs x i).part ++ ⟨#[ch]⟩, false, true⟩ := by rw [hsc]; unfold hstep; rw [hE, hQ, if_neg Bool.false_ne_true, if_neg Bool.false_ne_true, if_neg h44, if_pos h34]
              refine ⟨n - 1, by omega, i + 1, h₁₁, t11, o₈, oR, l, some (.str ⟨#[ch]⟩ u2), u3, rfl, by omega, by omega, ho, hoR, ?_, hz', ?_⟩
              · rw [e]; exact hl
              · rw [e]; exact S
            · rw [decide_eq_false h34, if_neg Bool.false_ne_true]
              refine w_nil ?_
              refine w_cons (w_aug (w_ldn fn7.cx S 2 (w_ld fn7.cx S 5 ?_)))
              refine w_siadd (small (by rw [one_ch]; omega)) fun u3 t9 => ?_
              refine w_st fn7.cx S 2 fun h₁₁ t11 S => ?_
              refine w_nil ?_
              have e : hs x (i + 1) = ⟨(hs x i).res, (hs x i).part ++ ⟨#[ch]⟩, false, false⟩ := by rw [hsc]; unfold hstep; rw [hE, hQ, if_neg Bool.false_ne_true, if_neg Bool.false_ne_true, if_neg h44, if_neg h34]
              refine ⟨n - 1, by omega, i + 1, h₁₁, t11, o₈, oR, l, some (.str ⟨#[ch]⟩ u2), u3, rfl, by omega, by omega, ho, hoR, ?_, hz', ?_⟩
              · rw [e]; exact hl
              · rw [e]; exact S
  rintro s ⟨h₇, t7, oR, l, vc, up', rfl, hoR, hl, hz, S⟩
  have hp := hz.part
  have hr := hz.res
  have hlenR : l.length = (hs x x.length).res.length := by rw [← hl, List.length_map]
  refine w_then (fun s => ∃ h' t' oR l, s = ⟨h', g, dr, t', os⟩ ∧ IsLs oR (strValues l) ∧ l.map (·.1) = httpParts x ∧ l.length ≤ 901 ∧ (∀ p ∈ l, p.1.length ≤ 900) ∧
      Led h L (loc N7 [some (.str x tx), some (.ref r), some (.str (hs x x.length).part up'), some (.bool (hs x x.length).esc), some (.bool (hs x x.length).quo), vc]) h' [(r, oR)])
    (w_if (w_tplain (w_ld fn7.cx S 2 ?_))) ?_
  · refine w_tstr (small (by omega)) fun t8 => ?_
    have hall : ∀ p ∈ l, p.1.length ≤ 900 := fun p hp' => by
      have : p.1 ∈ (hs x x.length).res := by rw [← hl]; exact List.mem_map_of_mem hp'
      have := hz.all _ this
      omega
    by_cases h0 : (hs x x.length).part.length = 0
    · have : (((hs x x.length).part.length : Int) != 0) = false := by rw [h0]; rfl
      rw [this, if_neg Bool.false_ne_true]
      refine w_nil ⟨rfl, h₇, t8, oR, l, rfl, hoR, ?_, by omega, hall, S⟩
      unfold httpParts; rw [if_pos h0]; exact hl
    · have : (((hs x x.length).part.length : Int) != 0) = true := by rw [bne_iff_ne]; omega
      rw [this, if_pos rfl]
      refine w_cons (w_expr (w_append (w_ld fn7.cx S 1 ⟨r, oR, _, rfl, lget S 0 rfl, hoR, w_ld fn7.cx S 2 ?_⟩)))
      have hlen : (strValues l).length ≤ 901 := by unfold strValues; rw [List.length_map]; omega
      refine w_appendb S 0 rfl hoR (small (by omega)) fun h₁₀ oR' S hoR => ⟨fun a e => (nomatch e), ?_⟩
      refine w_nil ⟨rfl, h₁₀, t8, oR', l ++ [((hs x x.length).part, up')], rfl, ?_, ?_, ?_, ?_, S⟩
      · have : strValues (l ++ [((hs x x.length).part, up')]) = strValues l ++ [Value.str (hs x x.length).part up'] := by unfold strValues; rw [List.map_append]; rfl
        rw [this]; exact hoR
      · unfold httpParts; rw [if_neg h0, List.map_append, hl]; rfl
      · rw [List.length_append]; simp only [List.length_cons, List.length_nil]; omega
      · intro p hp'
        rcases List.mem_append.mp hp' with hp' | hp'
        · exact hall p hp'
        · rw [List.mem_singleton.mp hp']; show (hs x x.length).part.length ≤ 900; omega
  rintro s ⟨h₈, t8, oR, l, rfl, hoR, hl, hlen, hall, S⟩
  refine w_cons (w_ret (w_comp (cl := []) (w_ld fn7.cx S 1 ?_) rfl))
  refine w_iter_list S (isList_ls (lget S 0 rfl) hoR) fun c o h₉ S ho _ => ?_
  refine cj_go S (fun D C oC h' P S' hP => self_list (lget S' 2 rfl) ho hP) fun D C oC h₁₀ S hC => ?_
  refine ck_loop (fun n s => ∃ i h' t' oC oD o mc lD, s = ⟨h', g, dr, t', os⟩ ∧ i + n = l.length + 1 ∧ i ≤ l.length ∧ IsNs oC mc ∧ IsLs oD (strValues lD) ∧ lD.map (·.1) = ((l.take i).map (·.1)).map Txt.strip ∧ IsLI o r i ∧
      Led h L (loc N7 [some (.str x tx), some (.ref r), some (.str (hs x x.length).part up'), some (.bool (hs x x.length).esc), some (.bool (hs x x.length).quo), vc]) h' [(C, oC), (D, oD), (c, o), (r, oR)]) ?_ (l.length + 1)
    ⟨0, h₁₀, t8, oC, _, o, _, [], rfl, by omega, by omega, hC, isLs_lst _ 0, rfl, ho, S⟩
  rintro n s ⟨i, h', t', oC, oD, o, mc, lD, rfl, hin, hi, hC, hoD, hlD, ho, S⟩
  have hlsz : (strValues l).length = l.length := by unfold strValues; rw [List.length_map]
  by_cases he : i = l.length
  · refine w_end_listI S hR' 2 rfl ho (isList_ls (lget S 3 rfl) hoR) (by rw [List.getElem?_eq_none_iff]; omega) fun h₁₁ S => ?_
    have S : Led h L _ h₁₁ [(C, oC), (D, oD), (r, oR)] := S
    refine ck_end S hC fun h₁₂ S => ?_
    refine q h₁₂ t' D oD lD S.fr.keep (S.nw (D, oD) (.head _)).2.2 (lget S 0 rfl) hoD ?_
    rw [hlD, he, List.take_length, hl]; rfl
  · have hlt : i < l.length := by omega
    refine w_next_listI S 2 rfl ho (isList_ls (lget S 3 rfl) hoR) (v := .str (l[i]).1 (l[i]).2) (by unfold strValues; rw [List.getElem?_map, List.getElem?_eq_getElem hlt]; rfl) fun h₁₁ o' S ho => ?_
    have S : Led h L _ h₁₁ [(C, oC), (D, oD), (c, o'), (r, oR)] := S
    refine w_asg (w_cst S 0 rfl hC fun h₁₂ oC' t9 S hC => ?_)
    have S : Led h L _ h₁₂ [(C, oC'), (D, oD), (c, o'), (r, oR)] := S
    refine w_if0 ?_
    rw [if_pos rfl]
    refine w_smeth0 F.slot_str_strip F.type_str_strip (w_cld S 0 rfl hC (if_pos rfl) ⟨_, _, rfl, ?_⟩)
    refine w_strip (small (by have := hall l[i] (List.getElem_mem hlt); omega)) fun u2 t10 => ?_
    have hD1 : lD.length = i := by
      have := congrArg List.length hlD
      rw [List.length_map, List.length_map, List.length_map, List.length_take] at this
      omega
    refine w_appendb S 1 rfl hoD (small (by unfold strValues; rw [List.length_map]; omega)) fun h₁₃ oD' S hoD => ?_
    refine ⟨n - 1, by omega, i + 1, h₁₃, t10, oC', oD', o', _, lD ++ [(Txt.strip l[i].1, u2)], rfl, by omega, by omega, hC, ?_, ?_, ho, S⟩
    · have : strValues (lD ++ [(Txt.strip l[i].1, u2)]) = strValues lD ++ [Value.str (Txt.strip l[i].1) u2] := by unfold strValues; rw [List.map_append]; rfl
      rw [this]; exact hoD
    · rw [List.map_append, hlD, List.take_add_one, List.getElem?_eq_getElem hlt]
      simp only [Option.toList_some, List.map_append, List.map_cons, List.map_nil]
end
end Mine
namespace Mine
abbrev N6 : List Str := ["l", "parsed", "elt", "k", "v"]
theorem fn6 : Fn (D 6) ["l"] ["parsed", "elt", "k", "v"] [] := Fn.of (by decide +kernel)
def unq (y : Str) (c0 c1 : Nat) : Str := if c0 = 34 ∧ c1 = 34 then Txt.slice y (some 1) (some (-1)) else y
theorem eq_len : (("=" : Str).length == 0) = false := by decide +kernel
section
variable {prog : Program} {w : World} {A : Around} {h : Heap} {g : Array GenState} {dr : Drawn} {t : Nat} {os : OsState} {f : Addr} {mg mb : Str → Option Value} {E : Value → Shared → Prop} {Q : Value → Shared → Prop}
theorem c_keqv {x y p : Str} {c0 c1 : Nat} {tx : Tok} {l : Addr} {ol : Obj} {j : Nat} (Gb : Glb mg mb h) (hf : IsFn (D 6) h f) (hR : Rm A (j + 1)) (hl : h.get? l = some ol) (hol : IsLs ol [.str x tx]) (hx : x.length ≤ 900) (hy : y.length ≤ 900)
    (hsp : Txt.splitMax x "=" 1 = [p, y]) (h0 : (seqIndex? 0 y.length).bind (y.cps[·]?) = some c0) (h1 : (seqIndex? (-1) y.length).bind (y.cps[·]?) = some c1)
    (q : ∀ h' t' b o u, Keeps h h' → h.get? b = none → h'.get? b = some o → IsDc prog w o (fun z => if z = p then some (.str (unq y c0 c1) u) else none) → Q (.ref b) ⟨h', g, dr, t', os⟩) :
    W prog w A (call (.ref f) [.ref l]) Q E ⟨h, g, dr, t, os⟩ := by
  refine enterF fn6 Gb hf hR ?_
  intro cd L h₁ t₁ S
  have hR' := hR.deeper (envOf (D 6).name (D 6).scope L f cd)
  refine w_cons (w_assign (w_dict0 S fun d h₂ S => ?_))
  refine w_st fn6.cx S 1 fun h₃ t2 S => ?_
  refine w_then (fun s => ∃ h' t' oD u v2 v3 v4, s = ⟨h', g, dr, t', os⟩ ∧ IsDc prog w oD (fun z => if z = p then some (.str (unq y c0 c1) u) else none) ∧ Led h L (loc N6 [some (.ref l), some (.ref d), v2, v3, v4]) h' [(d, oD)])
    (w_for (w_ld fn6.cx S 0 (w_iter_list S (isList_ls (S.fr.keep _ _ hl) hol) fun c o h₄ S ho _ => c_for (fun n s => ∃ i h' t' o oD v2 v3 v4, s = ⟨h', g, dr, t', os⟩ ∧ i + n = 2 ∧ i ≤ 1 ∧ IsLI o l i ∧ (i = 0 → oD = dct0) ∧
      (i = 1 → ∃ u, IsDc prog w oD (fun z => if z = p then some (.str (unq y c0 c1) u) else none)) ∧ Led h L (loc N6 [some (.ref l), some (.ref d), v2, v3, v4]) h' [(c, o), (d, oD)]) ?_ 2
      ⟨0, h₄, t2, o, dct0, none, none, none, rfl, rfl, by omega, ho, fun _ => rfl, fun e => (by omega), S⟩))) ?_
  · rintro n s ⟨i, h', t', o, oD, v2, v3, v4, rfl, hin, hi, ho, hd0, hd1, S⟩
    have hL := isList_ls (S.fr.keep _ _ hl) hol
    by_cases hi1 : i = 1
    · refine w_end_list S hR' ho hL (by rw [hi1]; rfl) fun h₅ S => ?_
      obtain ⟨u, hu⟩ := hd1 hi1
      exact ⟨rfl, h₅, t', oD, u, v2, v3, v4, rfl, hu, S⟩
    · have hi0 : i = 0 := by omega
      subst hi0
      obtain rfl := hd0 rfl
      refine w_next_list S ho hL (v := .str x tx) rfl fun h₅ o' S ho => ?_
      refine w_asg ?_
      refine w_st fn6.cx S 2 fun h₆ t3 S => ?_
      refine w_cons (w_assignT (w_smeth2 F.slot_str_split F.type_str_split (w_ld fn6.cx S 2 ⟨_, _, rfl, w_str fun u1 t4 => w_int fun u2 t5 => ?_⟩)))
      refine w_split S eq_len hsp hx fun b₁ h₇ u3 u4 t6 S => ?_
      refine w_unpackL S hR' (isList_of (lget S 0 rfl)) fun h₈ S => w_asg ?_
      have S := ldrop S
      refine w_st fn6.cx S 3 fun h₉ t7 S => ?_
      refine w_asg ?_
      refine w_st fn6.cx S 4 fun h₁₀ t8 S => ?_
      refine w_then (fun s => ∃ h' t' u, s = ⟨h', g, dr, t', os⟩ ∧ Led h L (loc N6 [some (.ref l), some (.ref d), some (.str x tx), some (.str p u3), some (.str (unq y c0 c1) u)]) h' [(c, o'), (d, dct0)])
        (w_if (w_tand (w_tcmp (w_item (w_ld fn6.cx S 4 (w_int fun u5 t9 => ?_)))))) ?_
      · refine w_si (by omega) h0 fun u6 t10 => ?_
        refine w_str fun u7 t11 => w_seq (w_tbool ?_)
        rw [ch_dq]
        by_cases e0 : c0 = 34
        · rw [decide_eq_true e0, if_pos rfl]
          refine w_tand (w_tcmp (w_item (w_ld fn6.cx S 4 (w_unary (w_int fun u8 t12 => w_neg fun u9 t13 => ?_)))))
          refine w_si (by omega) h1 fun u10 t14 => ?_
          refine w_str fun u11 t15 => w_seq (w_tbool ?_)
          rw [ch_dq]
          by_cases e1 : c1 = 34
          · rw [decide_eq_true e1, if_pos rfl]
            refine w_tand0 ?_
            rw [if_pos rfl]
            refine w_cons (w_assign (w_item (w_ld fn6.cx S 4 (w_slice (w_p1 (w_int fun u12 t16 => w_p1 (w_unary (w_int fun u13 t17 => w_neg fun u14 t18 => w_p0 ?_)))))))) 
            have S := lkeeps S (keeps_push h₁₀ { cls := .type "slice", data := .fields #[.int 1 u12, .int (-1) u14, .none] })
            refine w_sslice (lo := some (1, u12)) (hi := some (-1, u14)) ⟨_, Heap.get?_push_size _ rfl, rfl, rfl⟩ (small (by omega)) fun u15 t19 => ?_
            refine w_st fn6.cx S 4 fun h₁₁ t20 S => ?_
            refine w_nil ⟨rfl, h₁₁, t20, u15, rfl, ?_⟩
            unfold unq
            rw [if_pos ⟨e0, e1⟩]
            exact S
          · rw [decide_eq_false e1, if_neg Bool.false_ne_true, if_neg Bool.false_ne_true]
            refine w_nil ⟨rfl, h₁₀, t15, u4, rfl, ?_⟩
            unfold unq
            rw [if_neg (fun e => e1 e.2)]
            exact S
        · rw [decide_eq_false e0, if_neg Bool.false_ne_true, if_neg Bool.false_ne_true]
          refine w_nil ⟨rfl, h₁₀, t11, u4, rfl, ?_⟩
          unfold unq
          rw [if_neg (fun e => e0 e.1)]
          exact S
      rintro s ⟨h₁₁, t9, u, rfl, S⟩
      refine w_cons (w_setsub (w_ld fn6.cx S 4 (w_ld fn6.cx S 1 (w_ld fn6.cx S 3 ?_))))
      refine w_setd S 1 rfl (isDc_0 prog w) (fun es ep e => by cases e; exact Nat.zero_le _) fun h₁₂ oD' t10 S hD => ?_
      refine w_nil ⟨1, by omega, 1, h₁₂, t10, o', oD', _, _, _, rfl, rfl, by omega, ho, fun e => (by omega), fun _ => ⟨u, hD⟩, S⟩
  rintro s ⟨h₅, t3, oD, u, v2, v3, v4, rfl, hD, S⟩
  refine w_cons (w_ret (w_ld fn6.cx S 1 ?_))
  exact q h₅ t3 d oD u S.fr.keep (S.nw (d, oD) (.head _)).2.2 (lget S 0 rfl) hD
end
end Mine
namespace Mine
abbrev N9 : List Str := ["number", "turn", "tail", "rest", "items", "told"]
theorem fn9 : Fn (D 9) ["number", "turn"] ["tail", "rest", "items", "told"] ["parse_http_list", "parse_keqv_list", "len"] := Fn.of (by decide +kernel)
def tailOf (k : Nat) : Str := if k = 0 then ",x" else if k = 1 then " ,,x" else "\t,x,"
def restOf (k : Nat) : List Str := if k = 0 then ["x"] else if k = 1 then ["", "x"] else ["x"]
def X (n k : Nat) : Str := "\"" ++ Txt.mul "\\" (n : Int) ++ "\"" ++ tailOf k
def rd (n k : Nat) : List Str := httpList (X n k)
def rd0 (n k : Nat) : Str := (rd n k).headD ""
def rc0 (n k : Nat) : Nat := ((seqIndex? 0 (rd0 n k).length).bind ((rd0 n k).cps[·]?)).getD 0
def rc1 (n k : Nat) : Nat := ((seqIndex? (-1) (rd0 n k).length).bind ((rd0 n k).cps[·]?)).getD 0
def rtold (n k : Nat) : Str := unq (rd0 n k) (rc0 n k) (rc1 n k)
def rdChk (n k : Nat) : Bool :=
  decide ((rd n k).length ≤ 4) && decide (rd n k = rd0 n k :: (rd n k).drop 1) && decide (Txt.splitMax (("run=" : Str) ++ rd0 n k) "=" 1 = [("run" : Str), rd0 n k]) &&
  decide ((seqIndex? 0 (rd0 n k).length).bind ((rd0 n k).cps[·]?) = some (rc0 n k)) && decide ((seqIndex? (-1) (rd0 n k).length).bind ((rd0 n k).cps[·]?) = some (rc1 n k)) &&
  decide ((X n k).length ≤ 100) && (X n k).cps.all (· < 128) && decide ((rd0 n k).length ≤ 100) && decide ((rtold n k).length ≤ 100) &&
  (if n % 2 = 0 then decide (1 < (rd n k).length) && decide ((rd n k).drop 1 = restOf k) && decide ((rtold n k).length = n / 2)
   else decide ((rd n k).length = 1) && decide (rtold n k = "\"" ++ Txt.mul "\\" ((n / 2 : Nat) : Int) ++ "\"" ++ tailOf k))
theorem rdChk_all : ∀ n ∈ List.range 17, ∀ k ∈ List.range 3, rdChk n k = true := by decide +kernel
structure Rd (n k : Nat) : Prop where
  few : (rd n k).length ≤ 4
  hd : rd n k = rd0 n k :: (rd n k).drop 1
  sp : Txt.splitMax (("run=" : Str) ++ rd0 n k) "=" 1 = [("run" : Str), rd0 n k]
  c0 : (seqIndex? 0 (rd0 n k).length).bind ((rd0 n k).cps[·]?) = some (rc0 n k)
  c1 : (seqIndex? (-1) (rd0 n k).length).bind ((rd0 n k).cps[·]?) = some (rc1 n k)
  len : (X n k).length ≤ 100
  asc : (X n k).cps.all (· < 128) = true
  len0 : (rd0 n k).length ≤ 100
  lent : (rtold n k).length ≤ 100
  ev : n % 2 = 0 → 1 < (rd n k).length ∧ (rd n k).drop 1 = restOf k ∧ (rtold n k).length = n / 2
  od : ¬ n % 2 = 0 → (rd n k).length = 1 ∧ rtold n k = "\"" ++ Txt.mul "\\" ((n / 2 : Nat) : Int) ++ "\"" ++ tailOf k
theorem rd_ok {n k : Nat} (hn : n ≤ 16) (hk : k < 3) : Rd n k := by
  have e := rdChk_all n (by rw [List.mem_range]; omega) k (by rw [List.mem_range]; omega)
  unfold rdChk at e
  simp only [Bool.and_eq_true, decide_eq_true_eq] at e
  obtain ⟨⟨⟨⟨⟨⟨⟨⟨⟨a1, a2⟩, a3⟩, a4⟩, a5⟩, a6⟩, a7⟩, a8⟩, a9⟩, a10⟩ := e
  refine ⟨a1, a2, a3, a4, a5, a6, a7, a8, a9, fun he => ?_, fun ho => ?_⟩
  · rw [if_pos he] at a10
    simp only [Bool.and_eq_true, decide_eq_true_eq] at a10
    exact ⟨a10.1.1, a10.1.2, a10.2⟩
  · rw [if_neg ho] at a10
    simp only [Bool.and_eq_true, decide_eq_true_eq] at a10
    exact a10
theorem tail_len (k : Nat) : (tailOf k).length ≤ 4 := by
  unfold tailOf
  split
  · decide +kernel
  · split <;> decide +kernel
theorem rest_ok (k : Nat) : (restOf k).all PyData.strOk = true := by
  unfold restOf
  split
  · decide +kernel
  · split <;> decide +kernel
theorem dq_len : ("\"" : Str).length = 1 := by decide +kernel
theorem run_len : ("run=" : Str).length = 4 := by decide +kernel
/-- the half that _law_read tells -/
def half (n : Nat) : Nat := if n % 2 = 0 then n / 2 else 0
section
variable {prog : Program} {w : World} {A : Around} {h : Heap} {g : Array GenState} {dr : Drawn} {t : Nat} {os : OsState} {f : Addr} {mg mb : Str → Option Value} {E : Value → Shared → Prop} {Q : Value → Shared → Prop}
theorem c_read {n : Nat} {c : Int} {tn tc : Tok} {j : Nat} (Gb : Glb mg mb h) (hf : IsFn (D 9) h f) (hR : Rm A (j + 2)) (hn : n ≤ 16)
    (q : ∀ h' t' b u, Keeps h h' → h.get? b = none → h'.get? b = some (tup [.bool (decide (n % 2 = 0)), .int (half n : Int) u]) → Q (.ref b) ⟨h', g, dr, t', os⟩) :
    W prog w A (call (.ref f) [.int n tn, .int c tc]) Q E ⟨h, g, dr, t, os⟩ := by
  refine enterF fn9 Gb hf hR ?_
  intro cd L h₁ t₁ S
  have hR' := hR.deeper (envOf (D 9).name (D 9).scope L f cd)
  have m0 : 0 ≤ c.fmod 3 := Int.fmod_nonneg_of_pos c (by omega)
  have m1 : c.fmod 3 < 3 := Int.fmod_lt_of_pos c (by omega)
  obtain ⟨k, hk⟩ : ∃ k : Nat, c.fmod 3 = (k : Int) := ⟨(c.fmod 3).toNat, by omega⟩
  have hk3 : k < 3 := by omega
  have F := rd_ok hn hk3
  refine w_then (fun s => ∃ h' t' u b oB lB, s = ⟨h', g, dr, t', os⟩ ∧ IsLs oB (strValues lB) ∧ lB.map (·.1) = restOf k ∧ Led h L (loc N9 [some (.int n tn), some (.int c tc), some (.str (tailOf k) u), some (.ref b), none, none]) h' [(b, oB)]) ?_ ?_
  · refine w_assignT (w_item (w_list (w_args (w_tuple (w_args (w_str fun u1 t1 => w_args (w_list (w_args (w_str fun u2 t2 => w_args0 ?_)))))))))
    refine w_newlist S (small (Nat.le_of_ble_eq_true rfl)) fun b1 h₂ S => w_args0 ?_
    refine w_newtuple S (small (Nat.le_of_ble_eq_true rfl)) fun p1 h₃ S => ?_
    refine w_args (w_tuple (w_args (w_str fun u3 t3 => w_args (w_list (w_args (w_str fun u4 t4 => w_args (w_str fun u5 t5 => w_args0 ?_)))))))
    refine w_newlist S (small (Nat.le_of_ble_eq_true rfl)) fun b2 h₄ S => w_args0 ?_
    refine w_newtuple S (small (Nat.le_of_ble_eq_true rfl)) fun p2 h₅ S => ?_
    refine w_args (w_tuple (w_args (w_str fun u6 t6 => w_args (w_list (w_args (w_str fun u7 t7 => w_args0 ?_))))))
    refine w_newlist S (small (Nat.le_of_ble_eq_true rfl)) fun b3 h₆ S => w_args0 ?_
    refine w_newtuple S (small (Nat.le_of_ble_eq_true rfl)) fun p3 h₇ S => w_args0 ?_
    refine w_newlist S (small (Nat.le_of_ble_eq_true rfl)) fun l h₈ S => ?_
    refine w_binop (w_ld fn9.cx S 1 (w_int fun u8 t8 => w_mod (by decide) fun u9 t9 => ?_))
    rw [hk]
    obtain ⟨p, u, b, oB, lB, hp, hpo, hbo, hlB, hin⟩ : ∃ p u b oB lB, [Value.ref p1, .ref p2, .ref p3][((k : Nat) : Int).toNat]? = some (Value.ref p) ∧ h₈.get? p = some (tup [.str (tailOf k) u, .ref b]) ∧ IsLs oB (strValues lB) ∧ lB.map (·.1) = restOf k ∧
        ((b, oB) ∈ [(l, lst [.ref p1, .ref p2, .ref p3] 0), (p3, tup [.str "\t,x," u6, .ref b3]), (b3, lst [.str "x" u7] 0), (p2, tup [.str " ,,x" u3, .ref b2]), (b2, lst [.str "" u4, .str "x" u5] 0), (p1, tup [.str ",x" u1, .ref b1]), (b1, lst [.str "x" u2] 0)]) := by
      obtain rfl | rfl | rfl : k = 0 ∨ k = 1 ∨ k = 2 := by omega
      · exact ⟨p1, u1, b1, lst [.str "x" u2] 0, [("x", u2)], rfl, lget S 5 rfl, isLs_lst _ 0, rfl, by simp only [List.mem_cons, true_or, or_true]⟩
      · exact ⟨p2, u3, b2, lst [.str "" u4, .str "x" u5] 0, [("", u4), ("x", u5)], rfl, lget S 3 rfl, isLs_lst _ 0, rfl, by simp only [List.mem_cons, true_or, or_true]⟩
      · exact ⟨p3, u6, b3, lst [.str "x" u7] 0, [("x", u7)], rfl, lget S 1 rfl, isLs_lst _ 0, rfl, by simp only [List.mem_cons, true_or, or_true]⟩
    refine w_li (isList_of (lget S 0 rfl)) (by omega) (by omega) hp ?_
    refine w_unpackT S hR' (isTup_of hpo) fun h₉ S => w_asg ?_
    have S := lsub S (List.singleton_sublist.mpr hin)
    refine w_st fn9.cx S 2 fun h₁₀ t10 S => w_asg ?_
    refine w_st fn9.cx S 3 fun h₁₁ t11 S => ?_
    exact ⟨rfl, h₁₁, t11, u, b, oB, lB, rfl, hbo, hlB, S⟩
  rintro s ⟨h₂, t2, u1, bR, oB, lB, rfl, hoB, hlB, S⟩
  have zA := mul_len (x := "\\") (a := (n : Int)) bs_len (by omega)
  have zC := tail_len k
  refine w_cons (w_assign (w_call fn9.cx S Gb 7 fun b' => ?_))
  refine w_args (w_binop (w_binop (w_binop (w_str fun u2 t3 => w_binop (w_str fun u3 t4 => w_ld fn9.cx S 0 ?_)))))
  refine w_smul (mulOk1 bs_len (by omega) (by omega)) fun u4 t5 => ?_
  refine w_sadd (small (by rw [dq_len]; omega)) fun u5 t6 => w_str fun u6 t7 => ?_
  refine w_sadd (small (by rw [Str.length_append, dq_len]; omega)) fun u7 t8 => w_ld fn9.cx S 2 ?_
  refine w_sadd (small (by rw [Str.length_append, Str.length_append, dq_len]; omega)) fun u8 t9 => w_args0 ⟨S.fr.keep, fun hf' Gb' => ?_⟩
  refine c_http (x := X n k) Gb' hf' hR' (Nat.le_trans F.len (by omega)) F.asc fun h₃ t10 bI oI lI K hbI hoI hI hlI => ?_
  have S := ladd S K hbI hoI
  have hlI : lI.map (·.1) = rd n k := hlI
  have hlenI : (strValues lI).length = (rd n k).length := by rw [← hlI]; unfold strValues; rw [List.length_map, List.length_map]
  have few := F.few
  refine w_st fn9.cx S 4 fun h₄ t11 S => ?_
  obtain ⟨q0, lI', rfl⟩ : ∃ q0 lI', lI = q0 :: lI' := by
    cases lI with
    | nil => have := F.hd; rw [← hlI] at this; cases this
    | cons a b => exact ⟨a, b, rfl⟩
  have hq0 : q0.1 = rd0 n k := by
    have := F.hd
    rw [← hlI, List.map_cons] at this
    exact (List.cons.inj this).1
  have hlI' : lI'.map (·.1) = (rd n k).drop 1 := by rw [← hlI]; rfl
  refine w_cons (w_assign (w_item (w_call fn9.cx S Gb 6 fun b'' => ?_)))
  refine w_args (w_list (w_args (w_binop (w_str fun u9 t12 => w_item (w_ld fn9.cx S 4 (w_int fun u10 t13 => ?_))))))
  refine w_li (isList_ls (lget S 0 rfl) hI) (by omega) (by omega) (v := .str q0.1 q0.2) rfl ?_
  rw [hq0]
  have len0 := F.len0
  refine w_sadd (small (by rw [run_len]; omega)) fun u11 t14 => w_args0 ?_
  refine w_newlist S (small (Nat.le_of_ble_eq_true rfl)) fun bL h₅ S => w_args0 ⟨S.fr.keep, fun hf'' Gb'' => ?_⟩
  refine c_keqv Gb'' hf'' hR' (lget S 0 rfl) (isLs_lst _ 0) (by rw [Str.length_append, run_len]; omega) (by omega) F.sp F.c0 F.c1 fun h₆ t15 bD oD uD K hbD hoD hD => ?_
  have S := ladd (ldrop S) (fun b o e => K b o e) hbD hoD
  refine w_str fun u12 t16 => ?_
  refine w_getd (lget S 0 rfl) hD (if_pos rfl) fun t17 => ?_
  have S := ldrop S
  have S : Led h L (loc N9 [some (.int n tn), some (.int c tc), some (.str (tailOf k) u1), some (.ref bR), some (.ref bI), none]) h₆ [(bI, oI), (bR, oB)] := S
  refine w_st fn9.cx S 5 fun h₇ t18 S => ?_
  have lent := F.lent
  have S : Led h L (loc N9 [some (.int n tn), some (.int c tc), some (.str (tailOf k) u1), some (.ref bR), some (.ref bI), some (.str (rtold n k) uD)]) h₇ [(bI, oI), (bR, oB)] := S
  refine w_cons (w_if (w_tcmp (w_callb fn9.cx S Gb bo_len (w_args (w_ld fn9.cx S 4 (w_args0 ?_))))))
  refine w_lenl (isList_ls (lget S 0 rfl) hI) (small (by omega)) fun u13 t19 => w_int fun u14 t20 => w_gt (w_tbool ?_)
  rw [hlenI]
  by_cases he : n % 2 = 0
  · obtain ⟨g1, g2, g3⟩ := F.ev he
    rw [decide_eq_true (by omega : (1 : Int) < ((rd n k).length : Int)), if_pos rfl]
    refine w_cons (w_ret (w_tuple (w_args (w_bool (w_args (w_ifexp (w_tcmp (w_item (w_ld fn9.cx S 4 (w_slice (w_p1 (w_int fun u15 t21 => w_p0 (w_p0 ?_)))))))))))))
    have S := lkeeps S (keeps_push h₇ { cls := .type "slice", data := .fields #[.int 1 u15, .none, .none] })
    refine w_lslice S (isList_ls (lget S 0 rfl) hI) (Heap.IsSliceOf.new ..) (.int 1 u15) .none .none (by decide) (vs' := strValues lI') ?_ (small (by omega)) fun bS h₈ S => ?_
    · have := slicePick_from (strValues (q0 :: lI')).toArray 1 (by rw [List.size_toArray]; show 1 ≤ (strValues (q0 :: lI')).length; omega)
      exact this
    refine w_ld fn9.cx S 3 ?_
    refine w_eqstrs hR' (lget S 0 rfl) (isLs_lst _ 0) (lget S 2 rfl) hoB (by rw [hlI', g2, hlB]) (by rw [hlB]; exact rest_ok k) (w_tbool ?_)
    rw [if_pos rfl]
    refine w_callb fn9.cx S Gb bo_len (w_args (w_ld fn9.cx S 5 (w_args0 ?_)))
    refine w_lens (small (by omega)) fun u16 t22 => w_args0 ?_
    refine w_newtuple S (small (Nat.le_of_ble_eq_true rfl)) fun bT h₉ S => ?_
    refine q h₉ t22 bT u16 S.fr.keep (S.nw _ (.head _)).2.2 ?_
    rw [decide_eq_true he]
    have e : ((half n : Nat) : Int) = ((rtold n k).length : Int) := by unfold half; rw [if_pos he, g3]
    rw [e]
    exact lget S 0 rfl
  · obtain ⟨g1, g2⟩ := F.od he
    rw [decide_eq_false (by omega : ¬ (1 : Int) < ((rd n k).length : Int)), if_neg Bool.false_ne_true]
    refine w_nil ?_
    refine w_cons (w_ret (w_tuple (w_args (w_bool (w_args (w_ifexp (w_tcmp (w_ld fn9.cx S 5 (w_binop (w_binop (w_binop (w_str fun u15 t21 => w_binop (w_str fun u16 t22 => w_binop (w_ld fn9.cx S 0 (w_int fun u17 t23 => ?_)))))))))))))))
    refine w_fdiv (by decide) (noPy _) fun u18 t24 => ?_
    have e2 : (n : Int).fdiv 2 = ((n / 2 : Nat) : Int) := by
      rw [Int.fdiv_eq_ediv_of_nonneg _ (by decide)]; omega
    rw [e2]
    have zB := mul_len (x := "\\") (a := ((n / 2 : Nat) : Int)) bs_len (by omega)
    refine w_smul (mulOk1 bs_len (by omega) (by omega)) fun u19 t25 => ?_
    refine w_sadd (small (by rw [dq_len]; omega)) fun u20 t26 => w_str fun u21 t27 => ?_
    refine w_sadd (small (by rw [Str.length_append, dq_len]; omega)) fun u22 t28 => w_ld fn9.cx S 2 ?_
    refine w_sadd (small (by rw [Str.length_append, Str.length_append, dq_len]; omega)) fun u23 t29 => ?_
    refine w_seq (w_tbool ?_)
    rw [← g2, beq_self_eq_true, if_pos rfl]
    refine w_int fun u24 t30 => w_args0 ?_
    refine w_newtuple S (small (Nat.le_of_ble_eq_true rfl)) fun bT h₉ S => ?_
    refine q h₉ t30 bT u24 S.fr.keep (S.nw _ (.head _)).2.2 ?_
    rw [decide_eq_false he]
    have e : ((half n : Nat) : Int) = 0 := by unfold half; rw [if_neg he]; rfl
    rw [e]
    exact lget S 0 rfl
end
end Mine
namespace Mine
abbrev N12 : List Str := ["first", "second", "start", "twos", "turn", "order", "last", "even", "half", "even_too", "half_too", "gap"]
theorem fn12 : Fn (D 12) ["first", "second", "start"] ["twos", "turn", "order", "last", "even", "half", "even_too", "half_too", "gap"] ["range", "_law_order", "max", "_law_rest", "_law_read"] := Fn.of (by decide +kernel)
def st1 (a b : Nat) : Nat := if a % 2 = 0 then a / 2 else if b % 2 = 0 then a else if b < a then (a - b) + (b - a) else a
def st2 (a b : Nat) : Nat := if b % 2 = 0 then b / 2 else if a % 2 = 0 then b else if b < a then b else (a - b) + (b - a)
def st3 (a b tw : Nat) : Nat := if a % 2 = 0 ∧ b % 2 = 0 then tw * 2 else tw
def stein : Nat → Nat → Nat → Nat → Option Nat
  | 0, _, _, _ => none
  | f + 1, a, b, tw => if a = b ∨ a = 0 ∨ b = 0 then some (max a b * tw) else stein f (st1 a b) (st2 a b) (st3 a b tw)
theorem st1_le {a b : Nat} (ha : a ≤ 16) (hb : b ≤ 16) : st1 a b ≤ 16 := by unfold st1; split <;> (try split) <;> (try split) <;> omega
theorem st2_le {a b : Nat} (ha : a ≤ 16) (hb : b ≤ 16) : st2 a b ≤ 16 := by unfold st2; split <;> (try split) <;> (try split) <;> omega
theorem mulSmall {a b : Int} (h1 : -(2 ^ 64) < a) (h2 : a < 2 ^ 64) : IntMulOk a b := by
  unfold IntMulOk
  have := intBits_le_64 h1 h2
  have e : decide (Builtin.Int.intBits a > shortFactorBits) = false := decide_eq_false (by unfold shortFactorBits; omega)
  rw [e]
  simp only [Bool.false_and, Bool.false_eq_true, not_false_eq_true]
theorem mulSmall' {a b : Int} (h1 : -(2 ^ 64) < b) (h2 : b < 2 ^ 64) : IntMulOk a b := by
  unfold IntMulOk
  have := intBits_le_64 h1 h2
  have e : decide (Builtin.Int.intBits b > shortFactorBits) = false := decide_eq_false (by unfold shortFactorBits; omega)
  rw [e]
  simp only [Bool.and_false, Bool.false_and, Bool.false_eq_true, not_false_eq_true]
theorem sgn_ne2 (a b : Int) : (sgn a b == 2) = false := by unfold sgn; split <;> (try split) <;> rfl
theorem sgn_eq0 {a b : Nat} : (sgn (a : Int) (b : Int) == 0) = decide (a = b) := by
  unfold sgn
  by_cases h : a = b
  · subst h; rw [if_neg (by omega), if_pos rfl]; simp
  · rw [decide_eq_false h]
    split
    · rfl
    · rw [if_neg (by omega)]; rfl
theorem sgn_eq1 {a b : Nat} : (sgn (a : Int) (b : Int) == 1) = decide (b < a) := by
  unfold sgn
  by_cases h : b < a
  · rw [if_neg (by omega), if_neg (by omega), decide_eq_true h]; rfl
  · rw [decide_eq_false h]
    split
    · rfl
    · rw [if_pos (by omega)]; rfl
theorem int_eq0 {a : Nat} : ((a : Int) == 0) = decide (a = 0) := by
  by_cases h : a = 0
  · subst h; rfl
  · rw [decide_eq_false h]; rw [beq_eq_false_iff_ne]; omega

section
variable {prog : Program} {w : World} {A : Around} {h : Heap} {g : Array GenState} {dr : Drawn} {t : Nat} {os : OsState} {f : Addr} {mg mb : Str → Option Value} {E : Value → Shared → Prop} {Q : Value → Shared → Prop}
theorem c_common {a b R : Nat} {c : Int} {ta tb tc : Tok} {j : Nat} (Gb : Glb mg mb h) (hf : IsFn (D 12) h f) (hR : Rm A (j + 4)) (ha : a ≤ 16) (hb : b ≤ 16) (c0 : 0 ≤ c) (c1 : c ≤ 1000) (hst : stein 40 a b 1 = some R)
    (q : ∀ h' t' u, Keeps h h' → Q (.int (R : Int) u) ⟨h', g, dr, t', os⟩) :
    W prog w A (call (.ref f) [.int a ta, .int b tb, .int c tc]) Q E ⟨h, g, dr, t, os⟩ := by
  refine enterF fn12 Gb hf hR ?_
  intro cd L h₁ t₁ S
  have hR' := hR.deeper (envOf (D 12).name (D 12).scope L f cd)
  refine w_cons (w_assign (w_int fun u1 t1 => ?_))
  refine w_st fn12.cx S 3 fun h₂ t2 S => ?_
  refine w_cons (w_for (w_callt fn12.cx S Gb bo_range (w_args (w_ld fn12.cx S 2 (w_args (w_binop (w_ld fn12.cx S 2 (w_int fun u2 t3 => w_add fun u3 t4 => w_args0 ?_))))))))
  refine w_range2 S fun rg h₃ u4 t5 S => ?_
  refine w_iter_range S 0 rfl (by omega) (by omega) (by omega) fun it h₄ S => ?_
  have S := lsub S (news' := [(it, rgi c (c + 40 - c))]) (by simp only [List.cons_sublist_cons, List.nil_sublist])
  have e40 : c + 40 - c = ((40 : Nat) : Int) := by omega
  rw [e40] at S
  refine c_for (fun n s => ∃ k a b tw h' t' u1 u2 u3 x i v4 v5 v6 v7 v8 v9 v10 v11, s = ⟨h', g, dr, t', os⟩ ∧ n = k + 1 ∧ k ≤ 40 ∧ stein k a b tw = some R ∧ a ≤ 16 ∧ b ≤ 16 ∧
      Led h L (loc N12 [some (.int (a : Nat) u1), some (.int (b : Nat) u2), some x, some (.int (tw : Nat) u3), v4, v5, v6, v7, v8, v9, v10, v11]) h' [(it, rgi i (k : Nat))]) ?_ 41
    ⟨40, a, b, 1, h₄, t5, ta, tb, u1, .int c tc, c, none, none, none, none, none, none, none, none, rfl, rfl, by omega, hst, ha, hb, S⟩
  rintro n s ⟨k, a, b, tw, h', t', u1, u2, u3, x, i, v4, v5, v6, v7, v8, v9, v10, v11, rfl, hn, hk, hst, ha, hb, S⟩
  cases k with
  | zero => cases hst
  | succ k =>
    unfold stein at hst
    refine w_next_range S (by omega) fun h₅ u4 t6 S => w_asg ?_
    have ek : (((k + 1 : Nat) : Int) - 1) = (k : Int) := by omega
    rw [ek] at S
    refine w_st fn12.cx S 4 fun h₆ t7 S => ?_
    refine w_cons (w_assign (w_call fn12.cx S Gb 10 fun b' => ?_))
    refine w_args (w_ld fn12.cx S 0 (w_args (w_ld fn12.cx S 1 (w_args (w_ld fn12.cx S 4 (w_args0 ⟨S.fr.keep, fun hf' Gb' => ?_⟩))))))
    refine c_order Gb' hf' hR' (by omega) (by omega) (by omega) (by omega) fun h₇ t8 u5 K => ?_
    have S := lkeeps S K
    refine w_st fn12.cx S 5 fun h₈ t9 S => ?_
    refine w_cons (w_if (w_tcmp (w_ld fn12.cx S 5 (w_int fun u6 t10 => w_eq (w_tbool ?_)))))
    rw [sgn_ne2, if_neg Bool.false_ne_true]
    refine w_nil ?_
    have m0 : 0 ≤ i.fmod 4 := Int.fmod_nonneg_of_pos i (by omega)
    have m1 : i.fmod 4 < 4 := Int.fmod_lt_of_pos i (by omega)
    obtain ⟨m, hm⟩ : ∃ m : Nat, i.fmod 4 = (m : Int) := ⟨(i.fmod 4).toNat, by omega⟩
    by_cases hend : a = b ∨ a = 0 ∨ b = 0
    · rw [if_pos hend] at hst
      have hRv : max a b * tw = R := Option.some.inj hst
      refine w_cons (w_if (W.post (Q := fun c s' => c = true ∧ ∃ t', s' = ⟨h₈, g, dr, t', os⟩) ?_ ?_))
      · refine w_tor (w_tcmp (w_ld fn12.cx S 5 (w_int fun u7 t11 => w_eq (w_tbool ?_))))
        rw [sgn_eq0]
        by_cases h1 : a = b
        · rw [decide_eq_true h1, if_pos rfl]; exact ⟨rfl, _, rfl⟩
        rw [decide_eq_false h1, if_neg Bool.false_ne_true]
        refine w_tor (w_tcmp (w_ld fn12.cx S 0 (w_int fun u8 t12 => w_eq (w_tbool ?_))))
        rw [int_eq0]
        by_cases h2 : a = 0
        · rw [decide_eq_true h2, if_pos rfl]; exact ⟨rfl, _, rfl⟩
        rw [decide_eq_false h2, if_neg Bool.false_ne_true]
        refine w_tor (w_tcmp (w_ld fn12.cx S 1 (w_int fun u9 t13 => w_eq (w_tbool ?_))))
        rw [int_eq0]
        have h3 : b = 0 := by omega
        rw [decide_eq_true h3, if_pos rfl]; exact ⟨rfl, _, rfl⟩
      rintro c s' ⟨rfl, t11, rfl⟩
      rw [if_pos rfl]
      refine w_cons (w_assign (w_callb fn12.cx S Gb bo_max (w_args (w_ld fn12.cx S 0 (w_args (w_ld fn12.cx S 1 (w_args0 ?_)))))))
      refine w_max S hR' fun h₉ u7 t12 S => ?_
      have emax : (if (b : Int) > (a : Int) then (b : Int) else (a : Int)) = ((max a b : Nat) : Int) := by split <;> omega
      rw [emax]
      refine w_st fn12.cx S 6 fun h₁₀ t13 S => ?_
      refine w_cons (w_ret (w_ifexp (w_tcmp (w_call fn12.cx S Gb 11 fun b'' => ?_))))
      refine w_args (w_ld fn12.cx S 6 (w_args (w_ld fn12.cx S 6 (w_args (w_binop (w_ld fn12.cx S 4 (w_int fun u8 t14 => w_mod (by decide) fun u9 t15 => w_args0 ⟨S.fr.keep, fun hf'' Gb'' => ?_⟩)))))))
      rw [hm]
      refine c_rest Gb'' hf'' hR' (by omega) (by omega) (by omega) fun h₁₁ t16 u10 K => ?_
      have S := lkeeps S K
      refine w_int fun u11 t17 => w_eq (w_tbool ?_)
      have e0 : (((max a b - max a b : Nat) : Int) == 0) = true := by rw [Nat.sub_self]; rfl
      rw [e0, if_pos rfl]
      refine w_binop (w_ld fn12.cx S 6 (w_ld fn12.cx S 3 ?_))
      refine w_mul (mulSmall (by omega) (by omega)) fun u12 t18 => ?_
      have eR : ((max a b : Nat) : Int) * (tw : Int) = (R : Int) := by rw [← hRv]; exact (Int.natCast_mul _ _).symm
      rw [eR]
      exact q _ _ _ S.fr.keep
    · rw [if_neg hend] at hst
      have h1 : ¬ a = b := fun e => hend (.inl e)
      have h2 : ¬ a = 0 := fun e => hend (.inr (.inl e))
      have h3 : ¬ b = 0 := fun e => hend (.inr (.inr e))
      refine w_cons (w_if (w_tor (w_tcmp (w_ld fn12.cx S 5 (w_int fun u7 t11 => w_eq (w_tbool ?_))))))
      rw [sgn_eq0, decide_eq_false h1, if_neg Bool.false_ne_true]
      refine w_tor (w_tcmp (w_ld fn12.cx S 0 (w_int fun u8 t12 => w_eq (w_tbool ?_))))
      rw [int_eq0, decide_eq_false h2, if_neg Bool.false_ne_true]
      refine w_tor (w_tcmp (w_ld fn12.cx S 1 (w_int fun u9 t13 => w_eq (w_tbool ?_))))
      rw [int_eq0, decide_eq_false h3, if_neg Bool.false_ne_true]
      refine w_tor0 (w_nil ?_)
      refine w_cons (w_assignT (w_call fn12.cx S Gb 9 fun b'' => ?_))
      refine w_args (w_ld fn12.cx S 0 (w_args (w_ld fn12.cx S 4 (w_args0 ⟨S.fr.keep, fun hf'' Gb'' => ?_⟩))))
      refine c_read Gb'' hf'' hR' ha fun h₉ t14 p1 u10 K hp1 ho1 => ?_
      have S := ladd S K hp1 ho1
      refine w_unpackT S hR' (isTup_of ho1) fun h₁₀ S => w_asg ?_
      have S := ldrop S
      refine w_st fn12.cx S 7 fun h₁₁ t15 S => w_asg ?_
      refine w_st fn12.cx S 8 fun h₁₂ t16 S => ?_
      refine w_cons (w_assignT (w_call fn12.cx S Gb 9 fun b''' => ?_))
      refine w_args (w_ld fn12.cx S 1 (w_args (w_ld fn12.cx S 4 (w_args0 ⟨S.fr.keep, fun hf'' Gb'' => ?_⟩))))
      refine c_read Gb'' hf'' hR' hb fun h₁₃ t17 p2 u11 K hp2 ho2 => ?_
      have S := ladd S K hp2 ho2
      refine w_unpackT S hR' (isTup_of ho2) fun h₁₄ S => w_asg ?_
      have S := ldrop S
      refine w_st fn12.cx S 9 fun h₁₅ t18 S => w_asg ?_
      refine w_st fn12.cx S 10 fun h₁₆ t19 S => ?_
      refine w_cons (w_if (w_tor (w_tcmp (w_ld fn12.cx S 8 (w_int fun u12 t20 => w_lt (w_tbool ?_))))))
      rw [decide_eq_false (by omega : ¬ ((half a : Nat) : Int) < 0), if_neg Bool.false_ne_true]
      refine w_tor (w_tcmp (w_ld fn12.cx S 10 (w_int fun u13 t21 => w_lt (w_tbool ?_))))
      rw [decide_eq_false (by omega : ¬ ((half b : Nat) : Int) < 0), if_neg Bool.false_ne_true]
      refine w_tor0 (w_nil ?_)
      refine w_then (fun s => ∃ h' t' u, s = ⟨h', g, dr, t', os⟩ ∧ Led h L (loc N12 [some (.int (a : Nat) u1), some (.int (b : Nat) u2), some x, some (.int (st3 a b tw : Nat) u), some (.int i u4), some (.int (sgn a b) u5), v6, some (.bool (decide (a % 2 = 0))), some (.int (half a : Nat) u10), some (.bool (decide (b % 2 = 0))), some (.int (half b : Nat) u11), v11]) h' [(it, rgi (i + 1) (k : Nat))])
        (w_if (w_tand (w_tplain (w_ld fn12.cx S 7 (w_tbool ?_))))) ?_
      · by_cases ea : a % 2 = 0
        · rw [decide_eq_true ea, if_pos rfl]
          refine w_tand (w_tplain (w_ld fn12.cx S 9 (w_tbool ?_)))
          by_cases eb : b % 2 = 0
          · rw [decide_eq_true eb, if_pos rfl]
            refine w_tand0 ?_
            rw [if_pos rfl]
            refine w_cons (w_assign (w_binop (w_ld fn12.cx S 3 (w_int fun u14 t22 => ?_))))
            refine w_mul (mulSmall' (by omega) (by omega)) fun u15 t23 => ?_
            refine w_st fn12.cx S 3 fun h₁₇ t24 S => w_nil ⟨rfl, h₁₇, t24, u15, rfl, ?_⟩
            have e3 : ((st3 a b tw : Nat) : Int) = (tw : Int) * 2 := by unfold st3; rw [if_pos ⟨ea, eb⟩]; omega
            rw [e3]
            first | exact S | (rw [decide_eq_true ea, decide_eq_true eb]; exact S) | (rw [decide_eq_true ea, decide_eq_true eb] at S; exact S)
          · rw [decide_eq_false eb, if_neg Bool.false_ne_true, if_neg Bool.false_ne_true]
            refine w_nil ⟨rfl, h₁₆, _, u3, rfl, ?_⟩
            have e3 : st3 a b tw = tw := by unfold st3; rw [if_neg (fun e => eb e.2)]
            rw [e3]
            first | exact S | (rw [decide_eq_true ea, decide_eq_false eb] at S; exact S)
        · rw [decide_eq_false ea, if_neg Bool.false_ne_true, if_neg Bool.false_ne_true]
          refine w_nil ⟨rfl, h₁₆, _, u3, rfl, ?_⟩
          have e3 : st3 a b tw = tw := by unfold st3; rw [if_neg (fun e => ea e.1)]
          rw [e3]
          first | exact S | (rw [decide_eq_false ea] at S; exact S)
      rintro s ⟨h₁₇, t22, u14, rfl, S⟩
      refine w_then (fun s => ∃ h' t' u u' v11 a' b', s = ⟨h', g, dr, t', os⟩ ∧ (¬ a % 2 = 0 → a' = st1 a b) ∧ (¬ b % 2 = 0 → b' = st2 a b) ∧ Led h L (loc N12 [some (.int (a' : Nat) u), some (.int (b' : Nat) u'), some x, some (.int (st3 a b tw : Nat) u14), some (.int i u4), some (.int (sgn a b) u5), v6, some (.bool (decide (a % 2 = 0))), some (.int (half a : Nat) u10), some (.bool (decide (b % 2 = 0))), some (.int (half b : Nat) u11), v11]) h' [(it, rgi (i + 1) (k : Nat))])
        (w_if (w_tand (w_tnot (w_tplain (w_ld fn12.cx S 7 (w_tbool ?_)))))) ?_
      · by_cases ea : a % 2 = 0
        · rw [decide_eq_true ea]
          rw [if_neg (by decide), if_neg (by decide)]
          refine w_nil ⟨rfl, h₁₇, _, u1, u2, v11, a, b, rfl, fun e => absurd ea e, fun eb => ?_, ?_⟩
          · unfold st2; rw [if_neg eb, if_pos ea]
          · first | exact S | (rw [decide_eq_true ea] at S; exact S)
        · rw [decide_eq_false ea]
          rw [if_pos (by decide)]
          refine w_tand (w_tnot (w_tplain (w_ld fn12.cx S 9 (w_tbool ?_))))
          by_cases eb : b % 2 = 0
          · rw [decide_eq_true eb]
            rw [if_neg (by decide), if_neg (by decide)]
            refine w_nil ⟨rfl, h₁₇, _, u1, u2, v11, a, b, rfl, fun _ => ?_, fun e => absurd eb e, ?_⟩
            · unfold st1; rw [if_neg ea, if_pos eb]
            · first | exact S | (rw [decide_eq_false ea, decide_eq_true eb] at S; exact S)
          · rw [decide_eq_false eb, if_pos (by decide)]
            refine w_tand0 ?_
            rw [if_pos rfl]
            refine w_cons (w_assign (w_binop (w_call fn12.cx S Gb 11 fun b4 => ?_)))
            refine w_args (w_ld fn12.cx S 0 (w_args (w_ld fn12.cx S 1 (w_args (w_binop (w_ld fn12.cx S 4 (w_int fun u15 t23 => w_mod (by decide) fun u16 t24 => w_args0 ⟨S.fr.keep, fun hf'' Gb'' => ?_⟩)))))))
            rw [hm]
            refine c_rest Gb'' hf'' hR' ha (by omega) hb fun h₁₈ t25 u17 K => ?_
            have S := lkeeps S K
            refine w_call fn12.cx S Gb 11 fun b5 => ?_
            refine w_args (w_ld fn12.cx S 1 (w_args (w_ld fn12.cx S 0 (w_args (w_binop (w_ld fn12.cx S 4 (w_int fun u18 t26 => w_mod (by decide) fun u19 t27 => w_args0 ⟨S.fr.keep, fun hf'' Gb'' => ?_⟩)))))))
            rw [hm]
            refine c_rest Gb'' hf'' hR' hb (by omega) ha fun h₁₉ t28 u20 K => ?_
            have S := lkeeps S K
            refine w_add fun u21 t29 => ?_
            have eg : ((a - b : Nat) : Int) + ((b - a : Nat) : Int) = ((a - b + (b - a) : Nat) : Int) := by omega
            rw [eg]
            refine w_st fn12.cx S 11 fun h₂₀ t30 S => ?_
            refine w_cons (w_if (w_tcmp (w_ld fn12.cx S 11 (w_int fun u22 t31 => w_lt (w_tbool ?_)))))
            rw [decide_eq_false (by omega : ¬ ((a - b + (b - a) : Nat) : Int) < 0), if_neg Bool.false_ne_true]
            refine w_nil ?_
            refine w_cons (w_assignT (w_ifexp (w_tcmp (w_ld fn12.cx S 5 (w_int fun u23 t32 => w_eq (w_tbool ?_))))))
            rw [sgn_eq1]
            by_cases hlt : b < a
            · rw [decide_eq_true hlt, if_pos rfl]
              refine w_tuple (w_args (w_ld fn12.cx S 11 (w_args (w_ld fn12.cx S 1 (w_args0 ?_)))))
              refine w_newtuple S (small (Nat.le_of_ble_eq_true rfl)) fun p3 h₂₁ S => ?_
              refine w_unpackT S hR' (isTup_of (lget S 0 rfl)) fun h₂₂ S => w_asg ?_
              have S := ldrop S
              refine w_st fn12.cx S 0 fun h₂₃ t33 S => w_asg ?_
              refine w_st fn12.cx S 1 fun h₂₄ t34 S => w_nil ⟨rfl, h₂₄, t34, u21, u2, some (.int ((a - b + (b - a) : Nat) : Int) u21), a - b + (b - a), b, rfl, fun _ => ?_, fun _ => ?_, ?_⟩
              · unfold st1; rw [if_neg ea, if_neg eb, if_pos hlt]
              · unfold st2; rw [if_neg eb, if_neg ea, if_pos hlt]
              · first | exact S | (rw [decide_eq_false ea, decide_eq_false eb] at S; exact S)
            · rw [decide_eq_false hlt, if_neg Bool.false_ne_true]
              refine w_tuple (w_args (w_ld fn12.cx S 0 (w_args (w_ld fn12.cx S 11 (w_args0 ?_)))))
              refine w_newtuple S (small (Nat.le_of_ble_eq_true rfl)) fun p3 h₂₁ S => ?_
              refine w_unpackT S hR' (isTup_of (lget S 0 rfl)) fun h₂₂ S => w_asg ?_
              have S := ldrop S
              refine w_st fn12.cx S 0 fun h₂₃ t33 S => w_asg ?_
              refine w_st fn12.cx S 1 fun h₂₄ t34 S => w_nil ⟨rfl, h₂₄, t34, u1, u21, some (.int ((a - b + (b - a) : Nat) : Int) u21), a, a - b + (b - a), rfl, fun _ => ?_, fun _ => ?_, ?_⟩
              · unfold st1; rw [if_neg ea, if_neg eb, if_neg hlt]
              · unfold st2; rw [if_neg eb, if_neg ea, if_neg hlt]
              · first | exact S | (rw [decide_eq_false ea, decide_eq_false eb] at S; exact S)
      rintro s ⟨h₁₈, t23, u15, u16, v11', a', b', rfl, ha', hb', S⟩
      refine w_then (fun s => ∃ h' t' u, s = ⟨h', g, dr, t', os⟩ ∧ Led h L (loc N12 [some (.int (st1 a b : Nat) u), some (.int (b' : Nat) u16), some x, some (.int (st3 a b tw : Nat) u14), some (.int i u4), some (.int (sgn a b) u5), v6, some (.bool (decide (a % 2 = 0))), some (.int (half a : Nat) u10), some (.bool (decide (b % 2 = 0))), some (.int (half b : Nat) u11), v11']) h' [(it, rgi (i + 1) (k : Nat))])
        (w_if (w_tplain (w_ld fn12.cx S 7 (w_tbool ?_)))) ?_
      · by_cases ea : a % 2 = 0
        · rw [decide_eq_true ea, if_pos rfl]
          refine w_cons (w_assign (w_ld fn12.cx S 8 ?_))
          refine w_st fn12.cx S 0 fun h₁₉ t24 S => w_nil ⟨rfl, h₁₉, t24, u10, rfl, ?_⟩
          have e1 : st1 a b = half a := by unfold st1 half; rw [if_pos ea, if_pos ea]
          rw [e1]
          first | exact S | (rw [decide_eq_true ea] at S; exact S)
        · rw [decide_eq_false ea, if_neg Bool.false_ne_true]
          refine w_nil ⟨rfl, h₁₈, _, u15, rfl, ?_⟩
          rw [← ha' ea]
          first | exact S | (rw [decide_eq_false ea] at S; exact S)
      rintro s ⟨h₁₉, t24, u17, rfl, S⟩
      refine w_then (fun s => ∃ h' t' u, s = ⟨h', g, dr, t', os⟩ ∧ Led h L (loc N12 [some (.int (st1 a b : Nat) u17), some (.int (st2 a b : Nat) u), some x, some (.int (st3 a b tw : Nat) u14), some (.int i u4), some (.int (sgn a b) u5), v6, some (.bool (decide (a % 2 = 0))), some (.int (half a : Nat) u10), some (.bool (decide (b % 2 = 0))), some (.int (half b : Nat) u11), v11']) h' [(it, rgi (i + 1) (k : Nat))])
        (w_if (w_tplain (w_ld fn12.cx S 9 (w_tbool ?_)))) ?_
      · by_cases eb : b % 2 = 0
        · rw [decide_eq_true eb, if_pos rfl]
          refine w_cons (w_assign (w_ld fn12.cx S 10 ?_))
          refine w_st fn12.cx S 1 fun h₂₀ t25 S => w_nil ⟨rfl, h₂₀, t25, u11, rfl, ?_⟩
          have e1 : st2 a b = half b := by unfold st2 half; rw [if_pos eb, if_pos eb]
          rw [e1]
          first | exact S | (rw [decide_eq_true eb] at S; exact S)
        · rw [decide_eq_false eb, if_neg Bool.false_ne_true]
          refine w_nil ⟨rfl, h₁₉, _, u16, rfl, ?_⟩
          rw [← hb' eb]
          first | exact S | (rw [decide_eq_false eb] at S; exact S)
      rintro s ⟨h₂₀, t25, u18, rfl, S⟩
      exact w_nil ⟨k + 1, by omega, k, st1 a b, st2 a b, st3 a b tw, h₂₀, t25, u17, u18, u14, x, i + 1, _, _, _, _, _, _, _, _, rfl, rfl, by omega, hst, st1_le ha hb, st2_le ha hb, S⟩
end
end Mine
namespace Mine
/-- a stretch of a generator's run, up to its next yield or its end -/
structure SX (prog : Program) (w : World) (A : Around) (c : Code) (t : Sem Fin) (fs : List Frame) (s : Shared) (P : End → Shared → Prop) : Prop where
  out : SegX (model prog w) A c t fs s P
section
variable {prog : Program} {w : World} {A : Around} {c : Code} {fs : List Frame} {s : Shared} {P : End → Shared → Prop} {env : Env} {α : Type}
  {H : Value → Sem Fin} {gd : Bool → Bool} {lv : List Value → List Value} {pos : Pos}
theorem sx_w {m : Sem α} {K : α → Sem Fin} (h : W prog w (A.over c fs) m (fun a s' => SX prog w A c (K a) fs s' P) NoE s) : SX prog w A c (m.wrap K H gd lv) fs s P := by
  refine ⟨?_⟩
  rintro Γ p rfl hΓ
  obtain ⟨e, s', hr, hq⟩ := runs_wrap_of_wp (Φ := fun e s' => e.quiet = true ∧ P e s') K H gd lv m (h.out (Γ.over fs) p (hΓ.over fs)) (fun a p' s' h' => h'.out Γ p' rfl hΓ) (fun x p' s' h' => h'.elim)
  exact ⟨e, s', hr, hq⟩
theorem sx_we {m : Sem α} {K : α → Sem Fin} {E : Value → Shared → Prop} (h : W prog w (A.over c fs) m (fun a s' => SX prog w A c (K a) fs s' P) E s) (hE : ∀ x s', E x s' → SX prog w A c (H x) fs s' P) : SX prog w A c (m.wrap K H gd lv) fs s P := by
  refine ⟨?_⟩
  rintro Γ p rfl hΓ
  obtain ⟨e, s', hr, hq⟩ := runs_wrap_of_wp (Φ := fun e s' => e.quiet = true ∧ P e s') K H gd lv m (h.out (Γ.over fs) p (hΓ.over fs)) (fun a p' s' h' => h'.out Γ p' rfl hΓ) (fun x p' s' h' => (hE x s' h').out Γ p' rfl hΓ)
  exact ⟨e, s', hr, hq⟩
theorem sx_at {q : Pos} {k : Unit → Sem Fin} (h : SX prog w A c (k ()) fs s P) : SX prog w A c (.at q k) fs s P := ⟨s_skim prog w A c fs P s (.at q k) 1 h.out⟩
theorem bind_wrap {α β : Type} (m : Sem α) (f : α → Sem β) (K : β → Sem Fin) (H : Value → Sem Fin) (gd : Bool → Bool) (lv : List Value → List Value) : (m >>= f).wrap K H gd lv = m.wrap (fun a => (f a).wrap K H gd lv) H gd lv := by
  rw [Sem.bind_eq_wrap', Sem.wrap_wrap]; rfl
theorem sx_nil {K : Flow → Sem Fin} (h : SX prog w A c (K .next) fs s P) : SX prog w A c ((execs [] env).wrap K H gd lv) fs s P := h
theorem sx_cons {K : Flow → Sem Fin} {st : Stmt} {rest : List Stmt} (h : SX prog w A c ((exec st env).wrap (fun f => match f with | .next => (execs rest env).wrap K H gd lv | f => K f) H gd lv) fs s P) :
    SX prog w A c ((execs (st :: rest) env).wrap K H gd lv) fs s P := by
  rw [execs_cons_wrap]; exact h
theorem sx_if {K : Flow → Sem Fin} {test : PySem.Expr} {body orelse : List Stmt}
    (h : W prog w (A.over c fs) (isTrue test env (eval test env)) (fun b s' => if b = true then SX prog w A c ((execs body env).wrap K H gd lv) fs s' P else SX prog w A c ((execs orelse env).wrap K H gd lv) fs s' P) NoE s) :
    SX prog w A c ((exec (.If test body orelse pos) env).wrap K H gd lv) fs s P := by
  have e : (exec (.If test body orelse pos) env).wrap K H gd lv = .at pos fun _ => (isTrue test env (eval test env)).wrap (fun b => (if b = true then execs body env else execs orelse env).wrap K H gd lv) H gd lv := by
    rw [exec_If, bind_wrap]
    show Sem.at pos (fun _ => _) = _
    congr 1
    funext _
    show Sem.wrap _ _ _ _ _ = _
    rw [bind_wrap]
    rfl
  rw [e]
  refine sx_at (sx_w (h.post fun b s' hb => ?_))
  cases b <;> exact hb
theorem sx_yield {K : Flow → Sem Fin} {e : PySem.Expr} {ypos : Pos} (hfs : splitAtGen fs = none) (hgd : gd false = false) (hfg : fs.any Frame.guarded = false)
    (h : W prog w (A.over c fs) (eval e env) (fun v s' => ∀ p l kk, (∀ s'' P', SX prog w A c (K .next) fs s'' P' → SX prog w A c (kk (.send .none)) fs s'' P') → P (.susp v false l kk c p fs) s') NoE s)
    (hco : env.scope.isCoroutine = false) (hi : interactive env = false := by rfl) :
    SX prog w A c ((exec (.Expr (.Yield (some e) ypos) pos) env).wrap K H gd lv) fs s P := by
  rw [exec_Expr env _ pos hi rfl]
  have hy : ∀ v, yieldOut env v = yieldValue v := fun v => by simp only [yieldOut, hco, Bool.false_eq_true, if_false]
  show SX prog w A c (.at pos fun _ => ((eval e env >>= fun v => (standAt ypos >>= fun _ => yieldOut env v)) >>= fun x => dropValue (.Yield (some e) ypos) pos x).wrap K H gd lv) fs s P
  simp only [hy]
  refine sx_at ?_
  rw [bind_wrap, bind_wrap]
  refine sx_w (h.post fun v s' h' => ?_)
  rw [bind_wrap]
  refine sx_at ?_
  refine ⟨?_⟩
  show SegX _ _ _ (.yield v (gd false) (lv []) _) _ _ _
  rw [hgd]
  refine s_yield prog w A c fs P s' v _ _ hfs hfg fun p => h' p _ _ fun s'' P' hK => ?_
  exact hK
end
def noteH (env : Env) (e : Value) : Sem Fin := (do noteFrame e env; theTreesLotGoes e : Sem Unit).bind fun _ => .raise e
def loopK (c : Code) (f : Flow) : Sem Fin := match f with
  | .next | .cont => .pure (.again c)
  | .brk => .pure (.done .next)
  | .ret v => .pure (.done (.ret v))
def ownK (env : Env) (K : Flow → Sem Fin) (H : Value → Sem Fin) (gd : Bool → Bool) (lv : List Value → List Value) (r : Result) : Sem Fin :=
  ((match r with | .ok f => (.pure f : Sem Flow) | .error e => .raise e).onRaise fun (x : Value) => do
    if (← field x 1) == Value.none then unsupported "frame.own-activation:exception-without-traceback"
    setFlight x env.frame).wrap K H gd lv
def funK (f : Flow) : Sem Fin := .pure (.done (.ret (match f with | .ret v => v | _ => .none)))
def funH (env : Env) (e : Value) : Sem Fin := (leaving env e).wrap (fun _ => .raise e) .raise id id
section
variable {prog : Program} {w : World} {A : Around} {c : Code} {fs : List Frame} {s : Shared} {P : End → Shared → Prop} {env : Env}
  {K : Flow → Sem Fin} {H : Value → Sem Fin} {gd : Bool → Bool} {lv : List Value → List Value} {pos : Pos} {target iter test : PySem.Expr} {body : List Stmt} {it : Value}
theorem w_onRaise {α : Type} {m : Sem α} {k : Value → Sem Unit} {Q : α → Shared → Prop} {A : Around} (h : W prog w A m Q NoE s) : W prog w A (m.onRaise k) Q NoE s :=
  ⟨wpAny_onRaise (wpAny_mono h.out (fun _ _ x => x) fun _ _ x => x.elim)⟩
theorem sx_func (h : SX prog w A (.func body env) ((execs body env).wrap funK (funH env) id id) fs s P) : SX prog w A (.func body env) (denote table (.func body env)) fs s P := by
  have e : denote table (.func body env) = .point [] fun _ => (execs body env).wrap funK (funH env) id id := by
    show Sem.point [] (fun _ => ((execs body env).onRaise (leaving env)) >>= _) = _
    congr 1
    funext _
    rw [Sem.onRaise_eq_wrap, Sem.bind_eq_wrap', Sem.wrap_wrap]
    exact Sem.wrap_congr (execs body env) _ _ (fun f => by cases f <;> rfl) (fun e => by rw [Sem.bind_eq_wrap, Sem.wrap_wrap]; rfl)
  rw [e]
  exact ⟨s_skim prog w A _ fs P s (.point [] _) 1 h.out⟩
theorem sx_for (h : W prog w (A.over c fs) (eval iter env) (fun x s₁ => W prog w (A.over c fs) (pyIter x) (fun it s₂ => ∀ p,
      SX prog w A (.forLoop target it body [] env) (denote table (.forLoop target it body [] env)) (.ret (ownK env K H gd lv) none (gd false) (lv []) c p [] :: fs) s₂ P) NoE s₁) NoE s)
    (hs : ∀ x, foldedSetIterable iter env x = pure x := by intro _; rfl) : SX prog w A c ((exec (.For target iter body [] pos) env).wrap K H gd lv) fs s P := by
  rw [exec_For, bind_wrap]
  refine sx_at ?_
  show SX prog w A c (Sem.wrap K H gd lv (eval iter env >>= fun y => foldedSetIterable iter env y >>= fun x => standAt iter.pos >>= fun _ => holding [x] (pyIter x) >>= fun z => runOwn (.forLoop target z body [] env) env)) fs s P
  rw [bind_wrap]
  refine sx_w (h.post fun x s₁ h₁ => ?_)
  rw [hs x]
  show SX prog w A c (Sem.wrap K H gd lv (standAt iter.pos >>= fun _ => holding [x] (pyIter x) >>= fun z => runOwn (.forLoop target z body [] env) env)) fs s₁ P
  rw [bind_wrap]
  refine sx_at ?_
  show SX prog w A c (Sem.wrap K H gd lv (holding [x] (pyIter x) >>= fun z => runOwn (.forLoop target z body [] env) env)) fs s₁ P
  rw [bind_wrap]
  refine sx_w ⟨wpAny_holding (up h₁ fun z s₂ h₂ => ?_)⟩
  refine ⟨?_⟩
  show SegX _ _ _ (.call (.forLoop target z body [] env) none (gd false) (lv []) (ownK env K H gd lv)) _ _ _
  exact s_call prog w A c fs P s₂ _ _ _ _ _ fun p => (h₂ p).out
theorem sx_while (h : ∀ p, SX prog w A (.whileLoop test body [] env) (denote table (.whileLoop test body [] env)) (.ret (ownK env K H gd lv) none (gd false) (lv []) c p [] :: fs) s P) :
    SX prog w A c ((exec (.While test body [] pos) env).wrap K H gd lv) fs s P := by
  rw [exec_While, bind_wrap]
  refine sx_at ⟨?_⟩
  show SegX _ _ _ (.call (.whileLoop test body [] env) none (gd false) (lv []) (ownK env K H gd lv)) _ _ _
  exact s_call prog w A c fs P s _ _ _ _ _ fun p => (h p).out
theorem sx_forTurn (h : W prog w (A.over (.forLoop target it body [] env) fs) (pyNext it) (Tn (fun s₁ => SX prog w A (.block [] env) (.pure (.done .next)) fs s₁ P) fun v s₁ => W prog w (A.over (.forLoop target it body [] env) fs) (assign target env v) (fun _ s₂ =>
      SX prog w A (.forLoop target it body [] env) ((execs body env).wrap (loopK (.forLoop target it body [] env)) (noteH env) id id) fs s₂ P) NoE s₁) NoE s)
    (ht : ∀ v, letOwnedTupleGo target it v = pure () := by intro _; rfl) :
    SX prog w A (.forLoop target it body [] env) (denote table (.forLoop target it body [] env)) fs s P := by
  show SX prog w A _ ((forTurn target it body [] env).onRaise (fun x => do noteFrame x env; theTreesLotGoes x)) fs s P
  rw [Sem.onRaise_eq_wrap]
  unfold forTurn
  rw [bind_wrap]
  refine sx_at ?_
  show SX prog w A _ (Sem.wrap Sem.pure (noteH env) id id ((pyNext it).onRaise (fun _ => standAt { target.pos with line := 0 }) >>= _)) fs s P
  rw [bind_wrap]
  refine sx_w (w_onRaise (h.post fun r s₁ h₁ => ?_))
  cases r with
  | none => exact ⟨s_again prog w A _ fs P s₁ (.block [] env) rfl (SX.out h₁)⟩
  | some v =>
    show SX prog w A _ (Sem.wrap Sem.pure (noteH env) id id (letOwnedTupleGo target it v >>= fun _ => assign target env v >>= fun _ => execs body env >>= _)) fs s₁ P
    rw [ht v]
    show SX prog w A _ (Sem.wrap Sem.pure (noteH env) id id (assign target env v >>= fun _ => execs body env >>= _)) fs s₁ P
    rw [bind_wrap]
    refine sx_w (W.post h₁ fun _ s₂ h₂ => ?_)
    rw [bind_wrap]
    rw [Sem.wrap_congr (execs body env) _ _ (K' := loopK (.forLoop target it body [] env)) (H' := noteH env) (fun f => by cases f <;> rfl) (fun _ => rfl)]
    exact h₂
theorem sx_whileTurn (h : W prog w (A.over (.whileLoop test body [] env) fs) (isTrue test env (eval test env)) (fun b s' => if b = true then SX prog w A (.whileLoop test body [] env) ((execs body env).wrap (loopK (.whileLoop test body [] env)) (noteH env) id id) fs s' P else
      SX prog w A (.whileLoop test body [] env) (.pure (.done .next)) fs s' P) NoE s) :
    SX prog w A (.whileLoop test body [] env) (denote table (.whileLoop test body [] env)) fs s P := by
  show SX prog w A _ ((whileTurn test body [] env).onRaise (fun x => do noteFrame x env; theTreesLotGoes x)) fs s P
  rw [Sem.onRaise_eq_wrap]
  unfold whileTurn
  rw [bind_wrap]
  refine sx_w (h.post fun b s' hb => ?_)
  cases b with
  | true =>
    show SX prog w A _ (Sem.wrap Sem.pure (noteH env) id id (execs body env >>= _)) fs s' P
    rw [bind_wrap]
    rw [Sem.wrap_congr (execs body env) _ _ (K' := loopK (.whileLoop test body [] env)) (H' := noteH env) (fun f => by cases f <;> rfl) (fun _ => rfl)]
    exact hb
  | false => exact hb
theorem sx_again {c' : Code} (h : SX prog w A c' (denote table c') fs s P) (hq : c'.quiet = true := by rfl) : SX prog w A c (.pure (.again c')) fs s P := ⟨s_again prog w A c fs P s c' hq h.out⟩
theorem sx_pop {c₁ : Code} {p₁ : Pos} {f : Flow} {g : Bool} {l : List Value} (h : SX prog w A c₁ (K f) fs s P) : SX prog w A c (.pure (.done f)) (.ret (ownK env K H gd lv) none g l c₁ p₁ [] :: fs) s P :=
  ⟨s_pop prog w A c fs P s (.ok f) (.pure (.done f)) rfl _ _ _ _ _ _ _ h.out⟩
theorem sx_end {f : Flow} (h : P (.ret (.ok f)) s) : SX prog w A c (.pure (.done f)) [] s P := ⟨s_end prog w A c P s (.ok f) _ rfl h⟩
end
end Mine
namespace Mine
def GoX (prog : Program) (w : World) (A : Around) (gs : GenState) (s : Shared) (P : End → Shared → Prop) : Prop := match gs with
  | .fresh c => SX prog w A c (denote table c) [] s P
  | .suspended k _ c _ fs _ => SX prog w A c (k (.send .none)) fs s P
  | _ => False
section
variable {prog : Program} {w : World} {A : Around} {P : End → Shared → Prop}
theorem SegX.quiet {c : Code} {t : Sem Fin} {fs : List Frame} {s : Shared} (x : SegX (model prog w) A c t fs s P) : SegX (model prog w) A c t fs s (fun e s' => e.quiet = true ∧ P e s') := fun Γ p hc hΓ => by
  obtain ⟨e, s', hr, hq, hp⟩ := x Γ p hc hΓ
  exact ⟨e, s', hr, hq, hq, hp⟩
theorem resumeX {α : Type} {gs : GenState} {gi : Nat} {l : List Value} {k : GenResult → Sem α} {Q : α → Shared → Prop} {E : Value → Shared → Prop} {s : Shared} (hg : s.gens[gi]? = some gs) (hgo : GoX prog w A gs (s.setGen gi .running) P)
    (hP : ∀ e s₁, e.quiet = true → P e s₁ → wpAny (model prog w) A (k e.result) Q E (s₁.setGen gi e.genState)) : wpAny (model prog w) A (.resume gi (.send .none) l k) Q E s := by
  cases gs with
  | fresh c =>
    exact wake_any α prog w hg (.inl ⟨rfl, rfl, rfl, rfl⟩) (fun Γ => Γ.In A) (fun _ h => h) ((SegX.quiet (SX.out hgo)).mono fun e s₁ h Γ p hC => hP e s₁ h.1 h.2 Γ p hC)
  | suspended k₀ l₀ c₀ p₀ fs₀ cl =>
    exact wake_any α prog w hg (.inr ⟨k₀, l₀, p₀, cl, rfl, rfl⟩) (fun Γ => Γ.In A) (fun _ h => h) ((SegX.quiet (SX.out hgo)).mono fun e s₁ h Γ p hC => hP e s₁ h.1 h.2 Γ p hC)
  | running => exact hgo.elim
  | finished => exact hgo.elim
/-- a generator is asked for its next -/
theorem w_next_gen {n gi : Nat} {a : Addr} {gs : GenState} {s : Shared} {Q : Option Value → Shared → Prop} {E : Value → Shared → Prop} (hR : Rm A n) (hl : s.heap.NoLimit) (hg : s.heap.IsGen a gi) (hgs : s.gens[gi]? = some gs)
    (hgo : GoX prog w A.in1 gs (s.setGen gi .running) P)
    (hR' : ∀ r s₁, P (.ret r) s₁ → r = .ok (.ret .none) ∧ ∀ h', Keeps s₁.heap h' → Q none { s₁.setGen gi .finished with heap := h' })
    (hY : ∀ v g l k c p fs s₁, (End.susp v g l k c p fs).quiet = true → P (.susp v g l k c p fs) s₁ → Q (some v) (s₁.setGen gi (End.susp v g l k c p fs).genState)) : W prog w A (pyNext (.ref a)) Q E s := by
  refine ⟨?_⟩
  unfold pyNext
  refine wpAny_bind (wpAny_attempt (wpAny_callSpecial?_slot (name := Str.ofString "__next__") hg.typeIs slot_gen_next
    (wpAny_call_entry slot_gen_next hg.typeIs entry_gen_next ?_ (args_gen_next _))))
  show wpAny _ _ (Builtin.Generator.genWake (.ref a) (.send .none)) _ _ s
  unfold Builtin.Generator.genWake
  refine wpAny_bind (wpAny_holding (wpAny_genNumber hg (wpAny_bind (wpAny_genState hgs ?_))))
  cases gs with
  | running => exact hgo.elim
  | finished => exact hgo.elim
  | _ =>
    refine wpAny_bind (wpAny_roomToWake hl hR.room ?_)
    show wpAny _ _ (.resume gi (.send .none) [] _) _ _ s
    refine resumeX hgs hgo fun e s₁ hq hp => ?_
    cases e with
    | ret r =>
      obtain ⟨rfl, hk⟩ := hR' r s₁ hp
      show wpAny _ _ (newExc (.type "StopIteration") [] >>= _) _ _ _
      refine wpAny_bind ?_
      simp only [newExc, newTuple]
      refine wpAny_bind (wpAny_newObj_type ?_ (by size_fits))
      refine wpAny_bind (m := firstArgMember _ _) (wpAny_of_eq (a := Value.none) (by first | rfl | (simp only [firstArgMember]; rfl)) ?_)
      refine wpAny_newObj_type ?_ (by size_fits)
      simp only [raiseNew]
      refine wpAny_bind (wpAny_bind (wpAny_handled ?_))
      rw [show A.in1.handled = none from hR.hh]
      refine wpAny_throw ?_
      refine wpAny_bind (wpAny_isInstance (T := "StopIteration") (b := true) ⟨_, Heap.get?_push_size _ rfl, rfl⟩ isSubtype_stop ?_)
      exact wpAny_pure (hk _ fun b o hb => Heap.get?_push_of_some _ (Heap.get?_push_of_some _ hb))
    | susp v g l k c p fs => exact wpAny_pure ⟨v, rfl, wpAny_pure (hY v g l k c p fs s₁ hq hp)⟩
end

abbrev N3 : List Str := ["grouping", "last_interval", "interval"]
theorem cx3 : Cx (D 3) N3 ["CHAR_MAX", "ValueError"] := Cx.of (by decide +kernel)
theorem co3 : (D 3).scope.isCoroutine = false := by decide +kernel
def tgt3 : PySem.Expr := match (D 3).body with | [_, .For t _ _ _ _] => t | _ => .Name "" ⟨0, 0, 0, 0⟩
def bod3 : List Stmt := match (D 3).body with | [_, .For _ _ b _ _] => b | _ => []
def las3 : List Stmt := bod3.drop 3
def whi3 : Stmt := match bod3 with | [_, .If _ [_, w] _ _, _, _] => w | _ => .Pass ⟨0, 0, 0, 0⟩
def wte3 : PySem.Expr := match whi3 with | .While t _ _ _ => t | _ => .Name "" ⟨0, 0, 0, 0⟩
def wbo3 : List Stmt := match whi3 with | .While _ b _ _ => b | _ => []
abbrev env3 (Lg f : Addr) (cd : Value) : Env := envOf (D 3).name (D 3).scope Lg f cd
def cL (Lg f : Addr) (cd : Value) (I : Addr) : Code := .forLoop tgt3 (.ref I) bod3 [] (env3 Lg f cd)
def cW (Lg f : Addr) (cd : Value) : Code := .whileLoop wte3 wbo3 [] (env3 Lg f cd)

/-- the frames under the loop: how it goes on when the loop is left -/
structure FsOk (prog : Program) (w : World) (A : Around) (fs : List Frame) : Prop where
  split : splitAtGen fs = none
  ungd : fs.any Frame.guarded = false
  hh : ∀ c, (A.over c fs).handled = none
  fin : ∀ c s P f, P (.ret (.ok (.ret (match f with | .ret v => v | _ => .none)))) s → SX prog w A c (.pure (.done f)) fs s P
/-- what the heap holds of the generator's -/
structure GH (mg mb : Str → Option Value) (hb : Heap) (l Lg : Addr) (us : List Value) (I : Addr) (v2 v3 : Option Value) (j : Nat) (s : Shared) : Prop where
  ns : s.heap.Ns Lg (loc N3 [some (.ref l), v2, v3])
  it : s.heap.IsListIter I l j
  li : s.heap.IsList l us.toArray
  base : Keeps hb s.heap
  gl : Glb mg mb hb
  ne1 : Lg ≠ I
  ne2 : l ≠ Lg
  ne3 : l ≠ I
  nb1 : hb.get? Lg = none
  nb2 : hb.get? I = none
/-- what a stretch changes: the frame, the iterator -/
def Eff (Lg I : Addr) (s s' : Shared) : Prop := ∃ h' t', s' = ⟨h', s.gens, s.drawn, t', s.os⟩ ∧ ∀ b o, b ≠ Lg → b ≠ I → s.heap.get? b = some o → h'.get? b = some o
theorem Eff.refl {Lg I : Addr} (s : Shared) : Eff Lg I s s := ⟨s.heap, s.toks, rfl, fun _ _ _ _ e => e⟩
theorem Eff.trans {Lg I : Addr} {a b c : Shared} (x : Eff Lg I a b) (y : Eff Lg I b c) : Eff Lg I a c := by
  obtain ⟨h1, t1, rfl, k1⟩ := x
  obtain ⟨h2, t2, rfl, k2⟩ := y
  exact ⟨h2, t2, rfl, fun b o n1 n2 e => k2 b o n1 n2 (k1 b o n1 n2 e)⟩

section
variable {prog : Program} {w : World} {A : Around} {mg mb : Str → Option Value} {hb : Heap} {l Lg I f : Addr} {us : List Value} {v2 v3 : Option Value} {j : Nat} {s : Shared} {cd : Value} {x : Str} {pos : Pos} {v : Value}
  {Q : Value → Shared → Prop} {E : Value → Shared → Prop} {U : Unit → Shared → Prop}
theorem GH.tok (g : GH mg mb hb l Lg us I v2 v3 j s) (t : Nat) : GH mg mb hb l Lg us I v2 v3 j ⟨s.heap, s.gens, s.drawn, t, s.os⟩ := ⟨g.ns, g.it, g.li, g.base, g.gl, g.ne1, g.ne2, g.ne3, g.nb1, g.nb2⟩
theorem Eff.tok (t : Nat) : Eff Lg I s ⟨s.heap, s.gens, s.drawn, t, s.os⟩ := ⟨s.heap, t, rfl, fun _ _ _ _ e => e⟩
theorem GH.sameL {h' : Heap} {v2' v3' : Option Value} {t : Nat} (g : GH mg mb hb l Lg us I v2 v3 j s) (hn : h'.Ns Lg (loc N3 [some (.ref l), v2', v3'])) (hs : Heap.SameBut Lg s.heap h') : GH mg mb hb l Lg us I v2' v3' j ⟨h', s.gens, s.drawn, t, s.os⟩ :=
  ⟨hn, g.it.extBut hs.extBut (Ne.symm g.ne1), g.li.extBut hs.extBut g.ne2, fun b o e => hs.extBut b o (fun q => by rw [q, g.nb1] at e; cases e) (g.base b o e), g.gl, g.ne1, g.ne2, g.ne3, g.nb1, g.nb2⟩
theorem w_gld (g : GH mg mb hb l Lg us I v2 v3 j s) (i : Nat) (k : Q v s) (hx : N3[i]? = some x := by rfl) (hv : [some (Value.ref l), v2, v3][i]? = some (some v) := by rfl) : W prog w A (eval (.Name x pos) (env3 Lg f cd)) Q E s :=
  ⟨wpAny_Name (wpAny_loadName_local (env := env3 Lg f cd) cx3.kind (cx3.loc x (List.mem_of_getElem? hx)).1 g.ns (loc_at cx3.nd hx hv) k) (cx3.loc x (List.mem_of_getElem? hx)).2⟩
theorem w_gst (g : GH mg mb hb l Lg us I v2 v3 j s) (i : Nat) {v2' v3' : Option Value} (k : ∀ s', Eff Lg I s s' → GH mg mb hb l Lg us I v2' v3' j s' → U () s') (hx : N3[i]? = some x := by rfl) (hv : [some (Value.ref l), v2, v3].set i (some v) = [some (Value.ref l), v2', v3'] := by rfl) :
    W prog w A (storeName (env3 Lg f cd) x v) U E s := by
  refine ⟨wpAny_storeName_local (env := env3 Lg f cd) (cx3.loc x (List.mem_of_getElem? hx)).1 g.ns (fun h' hn hs => k _ ⟨h', _, rfl, fun b o n1 _ e => hs.extBut b o n1 e⟩ (g.sameL ?_ hs)) ?_⟩
  · rw [← hv, ← loc_set cx3.nd rfl hx]
    exact hn
  · show ((D 3).scope.kind == .class || ((D 3).scope.kind == .module && Lg != mainGlobals)) = false
    rw [cx3.kind]; rfl
theorem w_gmax (g : GH mg mb hb l Lg us I v2 v3 j s) (k : ∀ u, Q (.int 127 u) s) : W prog w A (eval (.Name "CHAR_MAX" pos) (env3 Lg f cd)) Q E s := by
  obtain ⟨u, hu⟩ := g.gl.cmax
  exact ⟨Name_function_global (env := env3 Lg f cd) cx3.kind (cx3.glo "CHAR_MAX" (by decide +kernel)).1 (loadGlobal_global (env := env3 Lg f cd) (g.gl.g.keeps g.base) hu (k u)) (cx3.glo "CHAR_MAX" (by decide +kernel)).2⟩
theorem w_gnext (g : GH mg mb hb l Lg us I v2 v3 j s) {P : Option Value → Shared → Prop} (hx : us[j]? = some v) (k : ∀ s', Eff Lg I s s' → GH mg mb hb l Lg us I v2 v3 (j + 1) s' → P (some v) s') : W prog w A (pyNext (.ref I)) P E s := by
  refine ⟨wpAny_pyNext_list_item (x := v) g.it g.li (by rw [List.getElem?_toArray]; exact hx) fun h' hi hs => ?_⟩
  exact k _ ⟨h', s.toks, rfl, fun b o _ n2 e => hs.extBut b o n2 e⟩ ⟨g.ns.sameBut hs g.ne1, hi, g.li.extBut hs.extBut g.ne3, fun b o e => hs.extBut b o (fun q => by rw [q, g.nb2] at e; cases e) (g.base b o e), g.gl, g.ne1, g.ne2, g.ne3, g.nb1, g.nb2⟩
theorem w_gend (g : GH mg mb hb l Lg us I v2 v3 j s) {P : Option Value → Shared → Prop} (hh : A.handled = none) (hx : us[j]? = none) (k : ∀ s', Eff Lg I s s' → P none s') : W prog w A (pyNext (.ref I)) P E s :=
  ⟨wpAny_pyNext_list_end hh g.it g.li (by rw [List.getElem?_toArray]; exact hx) fun h' he => k _ ⟨h', s.toks, rfl, fun b o _ n2 e => he b o n2 e⟩⟩
theorem w_eqg {a b : Int} {ta tb : Tok} (q : Q (.bool (a == b)) s) : W prog w A (compareOp .Eq (.int a ta) (.int b tb)) Q E s := by
  obtain ⟨h, g, dr, t, os⟩ := s
  exact w_eq q
theorem w_intg {i : Int} {k : Nat} {env : Env} (q : ∀ u t', Q (.int i u) ⟨s.heap, s.gens, s.drawn, t', s.os⟩) : W prog w A (eval (.Constant (.int i) k pos) env) Q E s := by
  obtain ⟨h, g, dr, t, os⟩ := s
  exact w_int q

/-- asleep behind «yield interval» -/
structure GA (prog : Program) (w : World) (A : Around) (Lg f : Addr) (cd : Value) (I : Addr) (gs : GenState) : Prop where
  out : ∃ kk l' p fs cl, gs = .suspended kk l' (cL Lg f cd I) p fs cl ∧ FsOk prog w A fs ∧
    ∀ s P, SX prog w A (cL Lg f cd I) ((execs las3 (env3 Lg f cd)).wrap (loopK (cL Lg f cd I)) (noteH (env3 Lg f cd)) id id) fs s P → SX prog w A (cL Lg f cd I) (kk (.send .none)) fs s P
/-- asleep behind «yield last_interval» -/
structure GB (prog : Program) (w : World) (A : Around) (Lg f : Addr) (cd : Value) (gs : GenState) : Prop where
  out : ∃ kk l' p fs cl, gs = .suspended kk l' (cW Lg f cd) p fs cl ∧ splitAtGen fs = none ∧ fs.any Frame.guarded = false ∧
    ∀ s P, SX prog w A (cW Lg f cd) ((execs [] (env3 Lg f cd)).wrap (loopK (cW Lg f cd)) (noteH (env3 Lg f cd)) id id) fs s P → SX prog w A (cW Lg f cd) (kk (.send .none)) fs s P
end
end Mine
namespace Mine
section
variable {prog : Program} {w : World} {A : Around} {mg mb : Str → Option Value} {hb : Heap} {l Lg I f : Addr} {us : List Value} {v2 v3 : Option Value} {j : Nat} {s : Shared} {cd : Value} {fs : List Frame} {P : End → Shared → Prop}
theorem w_isn {a : Int} {ta : Tok} {Q : Value → Shared → Prop} {E : Value → Shared → Prop} (q : Q (.bool false) s) : W prog w A (compareOp .Is (.int a ta) .none) Q E s := ⟨is_int_none q⟩
theorem g_turn_end (g : GH mg mb hb l Lg us I v2 v3 j s) (F : FsOk prog w A fs) (hx : us[j]? = none) (k : ∀ s', Eff Lg I s s' → P (.ret (.ok (.ret .none))) s') : SX prog w A (cL Lg f cd I) (denote table (cL Lg f cd I)) fs s P := by
  refine sx_forTurn (w_gend g (F.hh _) hx fun s' e => ?_)
  exact F.fin _ _ _ .next (k s' e)
theorem g_turn_stop {u : Tok} (g : GH mg mb hb l Lg us I v2 v3 j s) (F : FsOk prog w A fs) (hx : us[j]? = some (.int 127 u)) (k : ∀ s', Eff Lg I s s' → P (.ret (.ok (.ret .none))) s') : SX prog w A (cL Lg f cd I) (denote table (cL Lg f cd I)) fs s P := by
  refine sx_forTurn (w_gnext g hx fun s1 e1 g1 => w_asg (w_gst g1 2 fun s2 e2 g2 => ?_))
  refine sx_cons (sx_if (w_tcmp (w_gld g2 2 (w_gmax g2 fun u' => w_eqg (w_tbool ?_)))))
  rw [show ((127 : Int) == 127) = true from rfl, if_pos rfl]
  refine sx_cons (sx_w (w_ret0 ?_))
  exact F.fin _ _ _ (.ret .none) (k s2 (e1.trans e2))
theorem g_turn_item {i : Int} {u : Tok} (g : GH mg mb hb l Lg us I v2 v3 j s) (F : FsOk prog w A fs) (hx : us[j]? = some (.int i u)) (h0 : i ≠ 0) (h1 : i ≠ 127)
    (k : ∀ s' l' kk p, Eff Lg I s s' → GH mg mb hb l Lg us I v2 (some (.int i u)) (j + 1) s' → GA prog w A Lg f cd I (End.susp (.int i u) false l' kk (cL Lg f cd I) p fs).genState → P (.susp (.int i u) false l' kk (cL Lg f cd I) p fs) s') :
    SX prog w A (cL Lg f cd I) (denote table (cL Lg f cd I)) fs s P := by
  refine sx_forTurn (w_gnext g hx fun s1 e1 g1 => w_asg (w_gst g1 2 fun s2 e2 g2 => ?_))
  refine sx_cons (sx_if (w_tcmp (w_gld g2 2 (w_gmax g2 fun u' => w_eqg (w_tbool ?_)))))
  have n1 : (i == 127) = false := by rw [beq_eq_false_iff_ne]; exact h1
  rw [n1, if_neg Bool.false_ne_true]
  refine sx_nil (sx_cons (sx_if (w_tcmp (w_gld g2 2 (w_intg fun u' t' => w_eqg (w_tbool ?_))))))
  have n2 : (i == 0) = false := by rw [beq_eq_false_iff_ne]; exact h0
  rw [n2, if_neg Bool.false_ne_true]
  have g3 := g2.tok t'
  refine sx_nil (sx_cons (sx_yield F.split rfl F.ungd (w_gld g3 2 ?_) co3))
  intro p l' kk hkk
  refine k _ l' kk p (e1.trans (e2.trans (Eff.tok t'))) g3 ⟨kk, l', p, fs, _, rfl, F, fun s P h => hkk s P h⟩
theorem g_wturn {x : Int} {ux : Tok} (g : GH mg mb hb l Lg us I (some (.int x ux)) v3 j s) (hsp : splitAtGen fs = none) (hun : fs.any Frame.guarded = false)
    (k : ∀ s' l' kk p, Eff Lg I s s' → GH mg mb hb l Lg us I (some (.int x ux)) v3 j s' → GB prog w A Lg f cd (End.susp (.int x ux) false l' kk (cW Lg f cd) p fs).genState → P (.susp (.int x ux) false l' kk (cW Lg f cd) p fs) s') :
    SX prog w A (cW Lg f cd) (denote table (cW Lg f cd)) fs s P := by
  refine sx_whileTurn (w_tplain (w_bool (w_tbool ?_)))
  rw [if_pos rfl]
  refine sx_cons (sx_yield hsp rfl hun (w_gld g 1 ?_) co3)
  intro p l' kk hkk
  exact k s l' kk p (Eff.refl s) g ⟨kk, l', p, fs, _, rfl, hsp, hun, fun s P h => hkk s P h⟩
theorem g_turn_rep {u0 : Tok} {x : Int} {ux : Tok} (g : GH mg mb hb l Lg us I (some (.int x ux)) v3 j s) (F : FsOk prog w A fs) (hx : us[j]? = some (.int 0 u0))
    (k : ∀ s' v3' l' kk p fs', Eff Lg I s s' → GH mg mb hb l Lg us I (some (.int x ux)) v3' (j + 1) s' → GB prog w A Lg f cd (End.susp (.int x ux) false l' kk (cW Lg f cd) p fs').genState → P (.susp (.int x ux) false l' kk (cW Lg f cd) p fs') s') :
    SX prog w A (cL Lg f cd I) (denote table (cL Lg f cd I)) fs s P := by
  refine sx_forTurn (w_gnext g hx fun s1 e1 g1 => w_asg (w_gst g1 2 fun s2 e2 g2 => ?_))
  refine sx_cons (sx_if (w_tcmp (w_gld g2 2 (w_gmax g2 fun u' => w_eqg (w_tbool ?_)))))
  rw [show ((0 : Int) == 127) = false from rfl, if_neg Bool.false_ne_true]
  refine sx_nil (sx_cons (sx_if (w_tcmp (w_gld g2 2 (w_intg fun u' t' => w_eqg (w_tbool ?_))))))
  rw [show ((0 : Int) == 0) = true from rfl, if_pos rfl]
  have g3 := g2.tok t'
  refine sx_cons (sx_if (w_tcmp (w_gld g3 1 (w_none (w_isn (w_tbool ?_))))))
  rw [if_neg Bool.false_ne_true]
  refine sx_nil (sx_cons (sx_while fun p => ?_))
  refine g_wturn g3 (by show (splitAtGen fs).map _ = none; rw [F.split]; rfl) (by show (false || fs.any Frame.guarded) = false; rw [F.ungd]; rfl) fun s' l' kk p' e3 g4 gb => ?_
  exact k s' _ l' kk p' _ (e1.trans (e2.trans ((Eff.tok t').trans e3))) g4 gb
/-- woken behind «yield interval»: the loop's next turn, the last one kept -/
theorem ga_go {gs : GenState} {v : Value} (ga : GA prog w A Lg f cd I gs) (g : GH mg mb hb l Lg us I v2 (some v) j s) (k : ∀ s' fs, FsOk prog w A fs → Eff Lg I s s' → GH mg mb hb l Lg us I (some v) (some v) j s' → SX prog w A (cL Lg f cd I) (denote table (cL Lg f cd I)) fs s' P) :
    GoX prog w A gs s P := by
  obtain ⟨kk, l', p, fs, cl, rfl, F, h⟩ := ga.out
  refine h s P ?_
  refine sx_cons (sx_w (w_assign (w_gld g 2 (w_gst g 1 fun s' e g' => ?_))))
  exact sx_nil (sx_again (k s' fs F e g'))
theorem gb_go {gs : GenState} {x : Int} {ux : Tok} (gb : GB prog w A Lg f cd gs) (g : GH mg mb hb l Lg us I (some (.int x ux)) v3 j s)
    (k : ∀ s' l' kk p fs', Eff Lg I s s' → GH mg mb hb l Lg us I (some (.int x ux)) v3 j s' → GB prog w A Lg f cd (End.susp (.int x ux) false l' kk (cW Lg f cd) p fs').genState → P (.susp (.int x ux) false l' kk (cW Lg f cd) p fs') s') : GoX prog w A gs s P := by
  obtain ⟨kk, l', p, fs, cl, rfl, hs, hu, h⟩ := gb.out
  refine h s P (sx_nil (sx_again ?_))
  exact g_wturn g hs hu fun s' l' kk p e g' gb' => k s' l' kk p fs e g' gb'
end
end Mine
namespace Mine
def ivals (li : List (Int × Tok)) : List Value := li.map fun p => Value.int p.1 p.2
theorem ivals_at {li : List (Int × Tok)} {j : Nat} {n : Int} (h : (li.map (·.1))[j]? = some n) : ∃ u, (ivals li)[j]? = some (.int n u) := by
  rw [List.getElem?_map] at h
  unfold ivals
  rw [List.getElem?_map]
  cases q : li[j]? with
  | none => rw [q] at h; cases h
  | some p => rw [q] at h; cases h; exact ⟨p.2, rfl⟩
theorem ivals_none {li : List (Int × Tok)} {j : Nat} (h : (li.map (·.1))[j]? = none) : (ivals li)[j]? = none := by
  rw [List.getElem?_map] at h
  unfold ivals
  rw [List.getElem?_map]
  cases q : li[j]? with
  | none => rfl
  | some p => rw [q] at h; cases h
/-- the k-th that the generator gives -/
def gout (last : Option Int) : List Int → Nat → Option Int
  | [], _ => none
  | n :: r, k => if n = 127 then none else if n = 0 then last else match k with
    | 0 => some n
    | k + 1 => gout (some n) r k
section
variable {prog : Program} {w : World} {A : Around} {mg mb : Str → Option Value} {h₀ h : Heap} {L l Lg I f a : Addr} {m : Str → Option Value} {rest : List (Addr × Obj)} {cd : Value} {li : List (Int × Tok)} {ol og oF oI : Obj} {gi k : Nat} {gs : GenState} {out : Nat → Option Int}
  {g : Array GenState} {dr : Drawn} {t : Nat} {os : OsState} {n : Nat} {Q : Option Value → Shared → Prop} {E : Value → Shared → Prop}
/-- the generator asleep, k given -/
inductive Gp (prog : Program) (w : World) (A : Around) (l Lg f : Addr) (cd : Value) (ns : List Int) (out : Nat → Option Int) (I : Addr) (k : Nat) (gs : GenState) (oF oI : Obj) : Prop
  | yes (v2 : Option Value) (v : Int) (uv : Tok) (j : Nat) (ga : GA prog w A Lg f cd I gs) (hF : IsNs oF (loc N3 [some (.ref l), v2, some (.int v uv)])) (hI : IsLI oI l j) (ho : ∀ i, gout (some v) (ns.drop j) i = out (k + i)) : Gp prog w A l Lg f cd ns out I k gs oF oI
  | rep (v3 : Option Value) (x : Int) (ux : Tok) (j : Nat) (gb : GB prog w A Lg f cd gs) (hF : IsNs oF (loc N3 [some (.ref l), some (.int x ux), v3])) (hI : IsLI oI l j) (ho : ∀ i, out (k + i) = some x) : Gp prog w A l Lg f cd ns out I k gs oF oI
def IsGn (o : Obj) (gi : Nat) : Prop := o.cls = .type "generator" ∧ (∃ nm qn, o.data = .fields #[.int gi 0, nm, qn]) ∧ o.slots = #[]
theorem isGen_of {o : Obj} (e : h.get? a = some o) (x : IsGn o gi) : h.IsGen a gi := by
  obtain ⟨h1, ⟨nm, qn, h2⟩, h3⟩ := x
  exact ⟨o, nm, qn, e, h1, h2, h3⟩
theorem leff {s s' : Shared} (S : Led h₀ L m s.heap ((Lg, oF) :: (I, oI) :: rest)) (e : Eff Lg I s s') {oF' oI' : Obj} (h1 : s'.heap.get? Lg = some oF') (h2 : s'.heap.get? I = some oI') : Led h₀ L m s'.heap ((Lg, oF') :: (I, oI') :: rest) := by
  obtain ⟨h', t', rfl, hk⟩ := e
  have z1 := S.nw (Lg, oF) (.head _)
  have z2 := S.nw (I, oI) (.tail _ (.head _))
  have nd := S.nd
  simp only [List.map_cons, List.nodup_cons, List.mem_cons, not_or] at nd
  obtain ⟨oL, a1, a2, hoL, a3⟩ := S.fr.ns
  have ke : ∀ b o, s.heap.get? b = some o → b ≠ Lg → b ≠ I → h'.get? b = some o := fun b o e n1 n2 => hk b o n1 n2 e
  refine ⟨⟨⟨oL, a1, a2, ke L oL hoL z1.2.1.symm z2.2.1.symm, a3⟩, fun b x e => ke b x (S.fr.keep b x e) (fun hb => ?_) (fun hb => ?_), S.fr.above⟩, fun p hp => ?_, by simp only [List.map_cons]; exact S.nd⟩
  · have := z1.2.2; rw [← hb, e] at this; cases this
  · have := z2.2.2; rw [← hb, e] at this; cases this
  · rcases List.mem_cons.mp hp with rfl | hp
    · exact ⟨h1, z1.2⟩
    · rcases List.mem_cons.mp hp with rfl | hp
      · exact ⟨h2, z2.2⟩
      · have y := S.nw p (.tail _ (.tail _ hp))
        exact ⟨ke _ _ y.1 (fun e => nd.1.2 (List.mem_map.mpr ⟨p, hp, e⟩)) (fun e => nd.2.1 (List.mem_map.mpr ⟨p, hp, e⟩)), y.2⟩
theorem leff0 {s s' : Shared} (S : Led h₀ L m s.heap ((Lg, oF) :: (I, oI) :: rest)) (e : Eff Lg I s s') : Led h₀ L m s'.heap rest := by
  obtain ⟨h', t', rfl, hk⟩ := e
  have z1 := S.nw (Lg, oF) (.head _)
  have z2 := S.nw (I, oI) (.tail _ (.head _))
  have nd := S.nd
  simp only [List.map_cons, List.nodup_cons, List.mem_cons, not_or] at nd
  obtain ⟨oL, a1, a2, hoL, a3⟩ := S.fr.ns
  have ke : ∀ b o, s.heap.get? b = some o → b ≠ Lg → b ≠ I → h'.get? b = some o := fun b o e n1 n2 => hk b o n1 n2 e
  refine ⟨⟨⟨oL, a1, a2, ke L oL hoL z1.2.1.symm z2.2.1.symm, a3⟩, fun b x e => ke b x (S.fr.keep b x e) (fun hb => ?_) (fun hb => ?_), S.fr.above⟩, fun p hp => ?_, nd.2.2⟩
  · have := z1.2.2; rw [← hb, e] at this; cases this
  · have := z2.2.2; rw [← hb, e] at this; cases this
  · have y := S.nw p (.tail _ (.tail _ hp))
    exact ⟨ke _ _ y.1 (fun e => nd.1.2 (List.mem_map.mpr ⟨p, hp, e⟩)) (fun e => nd.2.1 (List.mem_map.mpr ⟨p, hp, e⟩)), y.2⟩
theorem gh_of {s : Shared} {v2 v3 : Option Value} {j : Nat} (S : Led h₀ L m s.heap ((Lg, oF) :: (I, oI) :: rest)) (Gb : Glb mg mb h₀) (hl : (l, ol) ∈ rest) (hol : IsLs ol (ivals li)) (hF : IsNs oF (loc N3 [some (.ref l), v2, v3])) (hI : IsLI oI l j) :
    GH mg mb h₀ l Lg (ivals li) I v2 v3 j s := by
  have nd := S.nd
  simp only [List.map_cons, List.nodup_cons, List.mem_cons, not_or] at nd
  refine ⟨ns_iff.mpr ⟨oF, lget S 0 rfl, hF⟩, ⟨oI, lget S 1 rfl, hI⟩, isList_ls (S.nw (l, ol) (.tail _ (.tail _ hl))).1 hol, S.fr.keep, Gb, nd.1.1, fun e => ?_, fun e => ?_, (S.nw (Lg, oF) (.head _)).2.2, (S.nw (I, oI) (.tail _ (.head _))).2.2⟩
  · exact nd.1.2 (List.mem_map.mpr ⟨(l, ol), hl, e⟩)
  · exact nd.2.1 (List.mem_map.mpr ⟨(l, ol), hl, e⟩)
theorem set2 (g : Array GenState) (gi : Nat) (x y : GenState) : (g.setIfInBounds gi x).setIfInBounds gi y = g.setIfInBounds gi y := by
  apply Array.ext_getElem?
  intro i
  simp only [Array.getElem?_setIfInBounds, Array.size_setIfInBounds]
  split <;> rfl
/-- what a stretch ends with -/
def PE (prog : Program) (w : World) (A : Around) (l Lg f : Addr) (cd : Value) (li : List (Int × Tok)) (out : Nat → Option Int) (I : Addr) (k : Nat) (s : Shared) (x : Option Int) (e : End) (s' : Shared) : Prop :=
  Eff Lg I s s' ∧ match x with
  | none => e = .ret (.ok (.ret .none))
  | some x => (∃ u g l' kk c p fs, e = .susp (.int x u) g l' kk c p fs) ∧ ∃ oF oI, s'.heap.get? Lg = some oF ∧ s'.heap.get? I = some oI ∧ Gp prog w A l Lg f cd (li.map (·.1)) out I (k + 1) e.genState oF oI
theorem gp_of_gh {s : Shared} {v2 v3 : Option Value} {j : Nat} (g : GH mg mb h₀ l Lg (ivals li) I v2 v3 j s) : ∃ oF oI, s.heap.get? Lg = some oF ∧ s.heap.get? I = some oI ∧ IsNs oF (loc N3 [some (.ref l), v2, v3]) ∧ IsLI oI l j := by
  obtain ⟨oF, e1, e2⟩ := ns_iff.mp g.ns
  obtain ⟨oI, e3, e4⟩ := g.it
  exact ⟨oF, oI, e1, e3, e2, e4⟩
/-- a turn of the loop, whatever comes -/
theorem g_turn {s₀ s : Shared} {v2 v3 : Option Value} {j : Nat} {fs : List Frame} (g : GH mg mb h₀ l Lg (ivals li) I v2 v3 j s) (F : FsOk prog w A fs) (e₀ : Eff Lg I s₀ s) (last : Option Int) (hlast : ∀ x, last = some x → ∃ ux, v2 = some (.int x ux)) (hrep : last = none → (li.map (·.1))[j]? ≠ some 0)
    (ho : ∀ i, gout last ((li.map (·.1)).drop j) i = out (k + i)) : SX prog w A (cL Lg f cd I) (denote table (cL Lg f cd I)) fs s (PE prog w A l Lg f cd li out I k s₀ (out k)) := by
  have h0 := ho 0
  rw [Nat.add_zero] at h0
  cases q : (li.map (·.1))[j]? with
  | none =>
    have e : (li.map (·.1)).drop j = [] := by rw [List.drop_eq_nil_iff]; exact List.getElem?_eq_none_iff.mp q
    rw [e] at h0
    refine g_turn_end g F (ivals_none q) fun s' e' => ⟨e₀.trans e', ?_⟩
    rw [← h0]; rfl
  | some n =>
    obtain ⟨hlt, hn⟩ := List.getElem?_eq_some_iff.mp q
    have e : (li.map (·.1)).drop j = n :: (li.map (·.1)).drop (j + 1) := by rw [List.drop_eq_getElem_cons hlt, hn]
    obtain ⟨u, hu⟩ := ivals_at q
    rw [e] at ho h0
    by_cases n127 : n = 127
    · subst n127
      refine g_turn_stop g F hu fun s' e' => ⟨e₀.trans e', ?_⟩
      have : out k = none := by rw [← h0]; rfl
      rw [this]
    · by_cases n0 : n = 0
      · subst n0
        cases last with
        | none => exact absurd q (hrep rfl)
        | some x =>
          obtain ⟨ux, rfl⟩ := hlast x rfl
          have hx : ∀ i, out (k + i) = some x := fun i => by rw [← ho i]; unfold gout; rw [if_neg n127, if_pos rfl]
          have hk : out k = some x := hx 0
          refine g_turn_rep g F hu fun s' v3' l' kk p fs' e' g' gb => ⟨e₀.trans e', ?_⟩
          rw [hk]
          obtain ⟨oF, oI, e1, e2, e3, e4⟩ := gp_of_gh g'
          exact ⟨⟨ux, false, l', kk, _, p, fs', rfl⟩, oF, oI, e1, e2, .rep v3' x ux (j + 1) gb e3 e4 fun i => by rw [Nat.add_assoc]; exact hx (1 + i)⟩
      · have hk : out k = some n := by rw [← h0]; unfold gout; rw [if_neg n127, if_neg n0]
        refine g_turn_item g F hu n0 n127 fun s' l' kk p e' g' ga => ⟨e₀.trans e', ?_⟩
        rw [hk]
        obtain ⟨oF, oI, e1, e2, e3, e4⟩ := gp_of_gh g'
        refine ⟨⟨u, false, l', kk, _, p, fs, rfl⟩, oF, oI, e1, e2, .yes v2 n u (j + 1) ga e3 e4 fun i => ?_⟩
        have := ho (i + 1)
        unfold gout at this
        rw [if_neg n127, if_neg n0] at this
        have this : gout (some n) (List.drop (j + 1) (List.map (fun x => x.fst) li)) i = out (k + (i + 1)) := this
        rw [this]
        congr 1
        omega
theorem gp_go {s : Shared} (p : Gp prog w A l Lg f cd (li.map (·.1)) out I k gs oF oI) (S : Led h₀ L m s.heap ((Lg, oF) :: (I, oI) :: rest)) (Gb : Glb mg mb h₀) (hl : (l, ol) ∈ rest) (hol : IsLs ol (ivals li)) :
    GoX prog w A gs s (PE prog w A l Lg f cd li out I k s (out k)) := by
  cases p with
  | yes v2 v uv j ga hF hI ho =>
    refine ga_go ga (gh_of S Gb hl hol hF hI) fun s' fs F e g => ?_
    exact g_turn g F e (some v) (fun x hx => by cases hx; exact ⟨uv, rfl⟩) (fun h => nomatch h) ho
  | rep v3 x ux j gb hF hI ho =>
    refine gb_go gb (gh_of S Gb hl hol hF hI) fun s' l' kk p fs' e g' gb' => ⟨e, ?_⟩
    have hk : out k = some x := ho 0
    rw [hk]
    obtain ⟨oF, oI, e1, e2, e3, e4⟩ := gp_of_gh g'
    exact ⟨⟨ux, false, l', kk, _, p, fs', rfl⟩, oF, oI, e1, e2, .rep v3 x ux j gb' e3 e4 fun i => by rw [Nat.add_assoc]; exact ho (1 + i)⟩
theorem gens_at {g : Array GenState} {gi : Nat} {gs x : GenState} (h : g[gi]? = some gs) : (g.setIfInBounds gi x)[gi]? = some x := by
  obtain ⟨hlt, _⟩ := Array.getElem?_eq_some_iff.mp h
  rw [Array.getElem?_setIfInBounds, if_pos rfl, if_pos hlt]
/-- the generator asleep gives its next -/
theorem n_next {x : Int} (S : Led h₀ L m h ((Lg, oF) :: (I, oI) :: rest)) (Gb : Glb mg mb h₀) (hR : Rm A n) (hl : (l, ol) ∈ rest) (hol : IsLs ol (ivals li)) (ha : (a, og) ∈ rest) (hog : IsGn og gi) (hgs : g[gi]? = some gs)
    (p : Gp prog w A.in1 l Lg f cd (li.map (·.1)) out I k gs oF oI) (hx : out k = some x)
    (q : ∀ h' t' u gs' oF' oI', Led h₀ L m h' ((Lg, oF') :: (I, oI') :: rest) → Gp prog w A.in1 l Lg f cd (li.map (·.1)) out I (k + 1) gs' oF' oI' → gs'.bare = true → Q (some (.int x u)) ⟨h', g.setIfInBounds gi gs', dr, t', os⟩) :
    W prog w A (pyNext (.ref a)) Q E ⟨h, g, dr, t, os⟩ := by
  have S' : Led h₀ L m ((⟨h, g, dr, t, os⟩ : Shared).setGen gi .running).heap ((Lg, oF) :: (I, oI) :: rest) := S
  refine w_next_gen (s := ⟨h, g, dr, t, os⟩) hR (Gb.nolimit.keeps S.fr.keep) (isGen_of (S.nw (a, og) (.tail _ (.tail _ ha))).1 hog) hgs (gp_go p S' Gb hl hol) (fun r s₁ hp => ?_) fun v gd l' kk c p' fs s₁ hq hp => ?_
  · rw [hx] at hp
    obtain ⟨_, ⟨_, _, _, _, _, _, _, e⟩, _⟩ := hp
    cases e
  · rw [hx] at hp
    obtain ⟨eff, ⟨u, g', l'', kk', c', p'', fs', e⟩, oF', oI', e1, e2, gp⟩ := hp
    cases e
    have S₂ := leff S' eff e1 e2
    obtain ⟨h', t', rfl, _⟩ := eff
    have hb := End.bare_of_quiet hq
    have := q h' t' u _ oF' oI' S₂ gp hb
    show Q (some (.int x u)) ⟨h', (g.setIfInBounds gi .running).setIfInBounds gi _, dr, t', os⟩
    rw [set2]
    exact this
theorem n_stop (S : Led h₀ L m h ((Lg, oF) :: (I, oI) :: rest)) (Gb : Glb mg mb h₀) (hR : Rm A n) (hl : (l, ol) ∈ rest) (hol : IsLs ol (ivals li)) (ha : (a, og) ∈ rest) (hog : IsGn og gi) (hgs : g[gi]? = some gs)
    (p : Gp prog w A.in1 l Lg f cd (li.map (·.1)) out I k gs oF oI) (hx : out k = none)
    (q : ∀ h' t', Led h₀ L m h' rest → Q none ⟨h', g.setIfInBounds gi .finished, dr, t', os⟩) :
    W prog w A (pyNext (.ref a)) Q E ⟨h, g, dr, t, os⟩ := by
  have S' : Led h₀ L m ((⟨h, g, dr, t, os⟩ : Shared).setGen gi .running).heap ((Lg, oF) :: (I, oI) :: rest) := S
  refine w_next_gen (s := ⟨h, g, dr, t, os⟩) hR (Gb.nolimit.keeps S.fr.keep) (isGen_of (S.nw (a, og) (.tail _ (.tail _ ha))).1 hog) hgs (gp_go p S' Gb hl hol) (fun r s₁ hp => ?_) fun v gd l' kk c p' fs s₁ hq hp => ?_
  · rw [hx] at hp
    obtain ⟨eff, e⟩ := hp
    cases e
    refine ⟨rfl, fun h'' K => ?_⟩
    have S₂ := leff0 S' eff
    obtain ⟨h', t', rfl, _⟩ := eff
    show Q none ⟨h'', (g.setIfInBounds gi .running).setIfInBounds gi .finished, dr, t', os⟩
    rw [set2]
    exact q h'' t' (lkeeps S₂ K)
  · rw [hx] at hp
    obtain ⟨_, e⟩ := hp
    cases e
end
section
variable {prog : Program} {w : World} {A : Around} {mg mb : Str → Option Value} {h₀ h : Heap} {L l Lg f a : Addr} {m : Str → Option Value} {rest : List (Addr × Obj)} {cd : Value} {li : List (Int × Tok)} {ol og oF : Obj} {gi : Nat} {out : Nat → Option Int}
  {g : Array GenState} {dr : Drawn} {t : Nat} {os : OsState} {n : Nat} {Q : Option Value → Shared → Prop} {E : Value → Shared → Prop} {s : Shared} {P : End → Shared → Prop} {us : List Value}
/-- woken for the first time: as far as the loop's first turn -/
theorem g_fresh (hh : A.handled = none) (Gb : Glb mg mb h₀) (hn : s.heap.Ns Lg (loc N3 [some (.ref l), none, none])) (hl : s.heap.IsList l us.toArray) (hb : Keeps h₀ s.heap) (ne : l ≠ Lg) (nb : h₀.get? Lg = none)
    (k : ∀ s' I fs, FsOk prog w A fs → s.heap.get? I = none → Eff Lg I s s' → GH mg mb h₀ l Lg us I (some .none) none 0 s' → SX prog w A (cL Lg f cd I) (denote table (cL Lg f cd I)) fs s' P) :
    GoX prog w A (.fresh (.func (D 3).body (env3 Lg f cd))) s P := by
  refine sx_func (sx_cons (sx_w (w_assign (w_none ⟨?_⟩))))
  refine wpAny_storeName_local (env := env3 Lg f cd) (cx3.loc "last_interval" (by decide +kernel)).1 hn (fun h₁ hn₁ hs₁ => ?_) (by show ((D 3).scope.kind == .class || ((D 3).scope.kind == .module && Lg != mainGlobals)) = false; rw [cx3.kind]; rfl)
  have hn₁ : h₁.Ns Lg (loc N3 [some (.ref l), some .none, none]) := by
    have e : (fun y => if y = (Str.ofString "last_interval") then some Value.none else loc N3 [some (.ref l), none, none] y) = loc N3 [some (.ref l), some .none, none] := loc_set (i := 1) cx3.nd rfl rfl
    exact e ▸ hn₁
  have hl₁ : h₁.IsList l us.toArray := hl.extBut hs₁.extBut ne
  refine sx_cons (sx_for ⟨?_⟩)
  refine wpAny_Name (wpAny_loadName_local (env := env3 Lg f cd) cx3.kind (cx3.loc "grouping" (by decide +kernel)).1 hn₁ (v := .ref l) (loc_at (i := 0) cx3.nd rfl rfl) ⟨?_⟩) (cx3.loc "grouping" (by decide +kernel)).2
  refine wpAny_pyIter_list hl₁ fun p => ?_
  have hsz : h₁.objs.size = s.heap.objs.size := hs₁.1
  have neI : ∀ b o, s.heap.get? b = some o → b ≠ h₁.objs.size := fun b o e => by rw [hsz]; exact Nat.ne_of_lt (Heap.lt_size e)
  have nbI : h₀.get? h₁.objs.size = none := by
    cases q : h₀.get? h₁.objs.size with
    | none => rfl
    | some o => exact absurd rfl (neI _ _ (hb _ _ q))
  have nLI : Lg ≠ h₁.objs.size := by obtain ⟨o, _, _, ho, _⟩ := hn; exact neI _ _ ho
  have nlI : l ≠ h₁.objs.size := by obtain ⟨o, ho, _⟩ := hl; exact neI _ _ ho
  refine k _ h₁.objs.size _ ⟨rfl, rfl, fun c => ?_, fun c s P f hP => ?_⟩ (by rw [hsz]; exact none_size _) ⟨_, _, rfl, fun b o n1 _ e => Heap.get?_push_of_some _ (hs₁.extBut b o n1 e)⟩ ⟨hn₁.push _, ⟨_, Heap.get?_push_size _ rfl, rfl, rfl⟩, hl₁.push _, fun b o e => Heap.get?_push_of_some _ (hs₁.extBut b o (fun q => by have q : b = Lg := q; rw [q, nb] at e; cases e) (hb b o e)), Gb, nLI, ne, nlI, nb, nbI⟩
  · show (marksOver _ (A.handled, A.handled)).1 = none
    rw [hh]; rfl
  · refine sx_pop ?_
    cases f <;> exact sx_end hP
theorem n_first {x : Int} (S : Led h₀ L m h ((Lg, oF) :: rest)) (Gb : Glb mg mb h₀) (hR : Rm A n) (hl : (l, ol) ∈ rest) (hol : IsLs ol (ivals li)) (ha : (a, og) ∈ rest) (hog : IsGn og gi) (hgs : g[gi]? = some (.fresh (.func (D 3).body (env3 Lg f cd))))
    (hF : IsNs oF (loc N3 [some (.ref l), none, none])) (hr : (li.map (·.1))[0]? ≠ some 0) (hx : gout none (li.map (·.1)) 0 = some x)
    (q : ∀ h' t' u gs' I oF' oI', Led h₀ L m h' ((Lg, oF') :: (I, oI') :: rest) → Gp prog w A.in1 l Lg f cd (li.map (·.1)) (gout none (li.map (·.1))) I 1 gs' oF' oI' → gs'.bare = true → Q (some (.int x u)) ⟨h', g.setIfInBounds gi gs', dr, t', os⟩) :
    W prog w A (pyNext (.ref a)) Q E ⟨h, g, dr, t, os⟩ := by
  have nd := S.nd
  simp only [List.map_cons, List.nodup_cons] at nd
  have ne : l ≠ Lg := fun e => nd.1 (List.mem_map.mpr ⟨(l, ol), hl, e⟩)
  refine w_next_gen (s := ⟨h, g, dr, t, os⟩) (P := fun e s' => ∃ I, h.get? I = none ∧ PE prog w A.in1 l Lg f cd li (gout none (li.map (·.1))) I 0 ((⟨h, g, dr, t, os⟩ : Shared).setGen gi .running) (gout none (li.map (·.1)) 0) e s') hR (Gb.nolimit.keeps S.fr.keep) (isGen_of (S.nw (a, og) (.tail _ ha)).1 hog) hgs ?_ (fun r s₁ hp => ?_) fun v gd l' kk c p' fs s₁ hq hp => ?_
  · refine g_fresh (us := ivals li) hR.hh Gb (ns_iff.mpr ⟨oF, lget S 0 rfl, hF⟩) (isList_ls (S.nw (l, ol) (.tail _ hl)).1 hol) S.fr.keep ne (S.nw (Lg, oF) (.head _)).2.2 fun s' I fs F hI e g' => ?_
    refine ⟨(SegX.mono (g_turn g' F e none (fun x hx => nomatch hx) (fun _ => hr) (fun i => by rw [List.drop_zero, Nat.zero_add])).out fun e s' hp => ⟨I, hI, hp⟩)⟩
  · obtain ⟨I, _, hp⟩ := hp
    rw [hx] at hp
    obtain ⟨_, ⟨_, _, _, _, _, _, _, e⟩, _⟩ := hp
    cases e
  · obtain ⟨I, hI, hp⟩ := hp
    rw [hx] at hp
    obtain ⟨eff, ⟨u, g', l'', kk', c', p'', fs', e⟩, oF', oI', e1, e2, gp⟩ := hp
    cases e
    have z := S.nw (Lg, oF) (.head _)
    obtain ⟨h', t', rfl, hk⟩ := eff
    have nLI : ∀ b o, h.get? b = some o → b ≠ I := fun b o e q => by rw [q, hI] at e; cases e
    have S₂ : Led h₀ L m h' ((Lg, oF') :: (I, oI') :: rest) := by
      obtain ⟨oL, a1, a2, hoL, a3⟩ := S.fr.ns
      have ke : ∀ b o, h.get? b = some o → b ≠ Lg → h'.get? b = some o := fun b o e n1 => hk b o n1 (nLI b o e) e
      refine ⟨⟨⟨oL, a1, a2, ke L oL hoL z.2.1.symm, a3⟩, fun b x e => ke b x (S.fr.keep b x e) (fun hb => ?_), S.fr.above⟩, fun p hp => ?_, ?_⟩
      · have := z.2.2; rw [← hb, e] at this; cases this
      · rcases List.mem_cons.mp hp with rfl | hp
        · exact ⟨e1, z.2⟩
        · rcases List.mem_cons.mp hp with rfl | hp
          · refine ⟨e2, fun q => nLI L oL hoL q.symm, ?_⟩
            cases q : h₀.get? I with
            | none => rfl
            | some o => exact absurd rfl (nLI _ _ (S.fr.keep _ _ q))
          · have y := S.nw p (.tail _ hp)
            exact ⟨ke _ _ y.1 (fun e => nd.1 (List.mem_map.mpr ⟨p, hp, e⟩)), y.2⟩
      · simp only [List.map_cons, List.nodup_cons, List.mem_cons, not_or]
        refine ⟨⟨nLI _ _ (lget S 0 rfl), nd.1⟩, fun hm => ?_, nd.2⟩
        obtain ⟨p, hp, e⟩ := List.mem_map.mp hm
        exact nLI p.1 p.2 (S.nw p (.tail _ hp)).1 e
    have hb := End.bare_of_quiet hq
    have := q h' t' u _ I oF' oI' S₂ gp hb
    show Q (some (.int x u)) ⟨h', (g.setIfInBounds gi .running).setIfInBounds gi _, dr, t', os⟩
    rw [set2]
    exact this
end
end Mine
namespace Mine
theorem lperm {h₀ h : Heap} {L : Addr} {m : Str → Option Value} {news news' : List (Addr × Obj)} (S : Led h₀ L m h news) (p : news'.Perm news) : Led h₀ L m h news' :=
  ⟨S.fr, fun q hq => S.nw q (p.subset hq), (p.map _).nodup_iff.mpr S.nd⟩
section
variable {prog : Program} {w : World} {A : Around} {h₀ h : Heap} {g : Array GenState} {dr : Drawn} {t : Nat} {os : OsState} {L f l : Addr} {mg mb m : Str → Option Value} {E : Value → Shared → Prop} {Q : Value → Shared → Prop}
  {news : List (Addr × Obj)} {n : Nat} {us vs : List Value} {a b : Addr} {value slice : PySem.Expr} {B : Bool → Shared → Prop}
theorem sc3 : (D 3).scope.isGenerator = true := by decide +kernel
theorem cl3 : ∀ x ∈ (D 3).scope.names, x.2 ≠ .cell := by decide +kernel
/-- the generator function is called -/
theorem c_gen (Gb : Glb mg mb h) (hf : IsFn (D 3) h f) (hR : Rm A n)
    (q : ∀ h₁ t' cd Lg oF og, Keeps h h₁ → h.get? Lg = none → h₁.get? Lg = some oF → IsNs oF (loc N3 [some (.ref l), none, none]) → IsGn og g.size → og.isFreed = false →
      Q (.ref h₁.objs.size) ⟨h₁.push og, g.push (.fresh (.func (D 3).body (env3 Lg f cd))), dr, t', os⟩) :
    W prog w A (call (.ref f) [.ref l]) Q E ⟨h, g, dr, t, os⟩ := by
  obtain ⟨o, pm, cd, doc, h1, h2, h3⟩ := hf
  refine ⟨wpAny_call (codeAny_call_generator (s := ⟨h, g, dr, t, os⟩) hR.room h1 h2 co3 sc3 rfl h3 ?_)⟩
  have hb : bindArgs (docDef (D 3).name (D 3).params (D 3).body (D 3).scope pm cd doc) ⟨[.ref l], []⟩ = pure ((["grouping"] : List Str).zip [Value.ref l]) := by rfl
  rw [hb]
  refine wpAny_pure (wpAny_newFunctionEnv (s := ⟨h, g, dr, t, os⟩) cl3 (fun y hy => (cx3.loc y.1 (List.mem_append_left (as := (["grouping"] : List Str)) (["last_interval", "interval"] : List Str) (List.of_mem_zip hy).1)).1) (fun h₁ hns hsb => ⟨Gb.nolimit.fresh _ hsb, ?_⟩) cx3.kind)
  have e : (fun x => ((["grouping"] : List Str).zip [Value.ref l]).reverse.lookup x) = loc N3 [some (.ref l), none, none] := loc_start (pn := ["grouping"]) (rest := ["last_interval", "interval"]) cx3.nd rfl
  have hns : h₁.Ns h.objs.size (loc N3 [some (.ref l), none, none]) := e ▸ hns
  obtain ⟨oF, e1, e2⟩ := ns_iff.mp hns
  exact q h₁ _ cd h.objs.size oF { cls := .type "generator", data := .fields #[.int g.size 0, .str (D 3).name _, .str (D 3).name _] } (fun b o e => hsb.extBut b o (Nat.ne_of_lt (Heap.lt_size e)) (Heap.get?_push_of_some _ e)) (none_size h) e1 e2 ⟨rfl, ⟨_, _, rfl⟩, rfl⟩ rfl
theorem w_iter_gen {og : Obj} {gi : Nat} (e : h.get? a = some og) (ho : IsGn og gi) (q : Q (.ref a) ⟨h, g, dr, t, os⟩) : W prog w A (pyIter (.ref a)) Q E ⟨h, g, dr, t, os⟩ := ⟨wpAny_pyIter_gen (s := ⟨h, g, dr, t, os⟩) (isGen_of e ho) q⟩
/-- lists: added, multiplied, copied, compared -/
theorem w_ladd (S : Led h₀ L m h news) (hl : h.IsList l us.toArray) (hb : h.IsList b vs.toArray) (hsz : us.length + vs.length ≤ sizeLine) (q : ∀ c h', Led h₀ L m h' ((c, lst (us ++ vs) 0) :: news) → Q (.ref c) ⟨h', g, dr, t, os⟩) :
    W prog w A (binaryOp .Add (.ref l) (.ref b)) Q E ⟨h, g, dr, t, os⟩ :=
  ⟨add_lists (s := ⟨h, g, dr, t, os⟩) S.fr S.nw hl hb (fun h' F N => q _ h' ⟨F, N, nd_new S (none_size h)⟩) hsz⟩
theorem rep1 (v : Value) (k : Nat) : List.foldl (fun x1 x2 => x1 ++ x2) #[] (List.replicate (if (#[v] : Array Value).isEmpty = true then 0 else k) #[v]) = (List.replicate k v).toArray := by
  have hk : (if (#[v] : Array Value).isEmpty = true then 0 else k) = k := if_neg (by simp)
  rw [hk]
  have key : ∀ (k : Nat) (acc : List Value), List.foldl (fun x1 x2 => x1 ++ x2) acc.toArray (List.replicate k #[v]) = (acc ++ List.replicate k v).toArray := by
    intro k
    induction k with
    | zero => intro acc; simp
    | succ k ih =>
      intro acc
      rw [List.replicate_succ, List.foldl_cons]
      have : acc.toArray ++ #[v] = (acc ++ [v]).toArray := by simp
      rw [this, ih, List.append_assoc, List.replicate_succ]; rfl
  exact (key k []).trans (by simp)
theorem w_lmul1 {v : Value} {x : Int} {u : Tok} (S : Led h₀ L m h news) (hl : h.get? l = some (lst [v] 0)) (x0 : 0 ≤ x) (x1 : x ≤ 1000) (q : ∀ c h', Led h₀ L m h' ((c, lst (List.replicate x.toNat v) 0) :: news) → Q (.ref c) ⟨h', g, dr, t, os⟩) :
    W prog w A (binaryOp .Mult (.ref l) (.int x u)) Q E ⟨h, g, dr, t, os⟩ := by
  refine ⟨mul_list (s := ⟨h, g, dr, t, os⟩) (items := #[v]) (k := 0) S.fr S.nw hl (by omega) (by omega) (by show 1 * x.toNat ≤ 2 ^ 24; omega) fun h' F N => ?_⟩
  refine q h.objs.size h' ⟨F, ?_, nd_new S (none_size h)⟩
  rw [rep1] at N
  exact N
theorem w_lcopy (S : Led h₀ L m h news) (hl : h.IsList l us.toArray) (hsz : us.length ≤ sizeLine) (q : ∀ c n h', Led h₀ L m h' ((c, lst us n) :: news) → Q (.ref c) ⟨h', g, dr, t, os⟩) :
    W prog w A (call (.type "list") [.ref l]) Q E ⟨h, g, dr, t, os⟩ := by
  obtain ⟨o, ho, hc, n, hd⟩ := hl
  exact ⟨call_list_seq (s := ⟨h, g, dr, t, os⟩) (hsz := by rw [List.size_toArray]; exact hsz) l (.inl rfl) ho hc hd fun h' c' hk hD => q _ c' h' (ladd S hk (none_size h) hD)⟩
theorem w_neints {a b : Addr} {oa ob : Obj} {la : List (Int × Tok)} (hR : Rm A n) (ea : h.get? a = some oa) (ha : IsLs oa (ivals la)) (eb : h.get? b = some ob) (hb : IsLs ob (ivals la)) (q : Q (.bool false) ⟨h, g, dr, t, os⟩) :
    W prog w A (compareOp .NotEq (.ref a) (.ref b)) Q E ⟨h, g, dr, t, os⟩ := by
  have hc : (PyData.list ((la.map (·.1)).map PyData.int)).canLay0 = true := by simp only [PyData.canLay0, canLay_ints _]
  have ii := ints_reads (h := h) la
  have ei : (la.map fun p => PyData.int p.1) = (la.map (·.1)).map PyData.int := by rw [List.map_map]; rfl
  rw [ei] at ii
  refine ⟨SeqAt.compareNe_reads (s := ⟨h, g, dr, t, os⟩) (reads_ls ea ha ii) (reads_ls eb hb ii) hc hc ?_ ?_⟩
  · have := hR.un
    simp only [PyData.depth, depth_ints]
    omega
  · rw [SeqAt.eqv_refl _ hc]
    exact q
theorem w_lneg {v : Value} {x : Int} {ta : Tok} (hl : h.IsList l us.toArray) (h0 : x < 0) (h1 : -(us.length : Int) ≤ x) (hlo : -(2 ^ 63) ≤ x) (hx : us[(x + us.length).toNat]? = some v) (q : Q v ⟨h, g, dr, t, os⟩)
    (hs : subscripted slice false (.ref l) (.int x ta) = operate [.ref l, .int x ta] (getItem (.ref l) (.int x ta)) := by with_unfolding_all rfl) :
    W prog w A (subscriptTail value slice (.ref l) (.int x ta)) Q E ⟨h, g, dr, t, os⟩ := by
  refine ⟨?_⟩
  have hT : (⟨h, g, dr, t, os⟩ : Shared).TypeIs (.ref l) "list" := Heap.IsList.typeIs (s := ⟨h, g, dr, t, os⟩) hl
  exact tail_any hT slot_list_getitem.lookup (wpAny_getItem_list_neg (s := ⟨h, g, dr, t, os⟩) hl h0 (by rw [List.size_toArray]; exact h1) hlo (by rw [List.size_toArray, List.getElem?_toArray]; exact hx) q) hs
theorem w_tlist (hl : h.IsList l us.toArray) (hsz : us.length ≤ 1000) (q : ∀ t', B (!us.isEmpty) ⟨h, g, dr, t', os⟩) : W prog w A (truthy (.ref l)) B E ⟨h, g, dr, t, os⟩ := by
  refine ⟨wpAny_truthy_list (s := ⟨h, g, dr, t, os⟩) hl (by rw [List.size_toArray]; omega) ?_⟩
  rw [List.isEmpty_toArray]
  exact q _
theorem push_set (g : Array GenState) (x y : GenState) : (g.push x).setIfInBounds g.size y = g.push y := by
  apply Array.ext_getElem?
  intro i
  simp only [Array.getElem?_setIfInBounds, Array.size_push, Array.getElem?_push]
  by_cases h : g.size = i
  · subst h; simp
  · rw [if_neg h, if_neg (Ne.symm h), if_neg (Ne.symm h)]
end
end Mine
namespace Mine
abbrev N13 : List Str := ["once", "again", "count", "way", "ways", "sizes", "kept", "marks", "told"]
theorem fn13 : Fn (D 13) ["once", "again", "count", "way"] ["ways", "sizes", "kept", "marks", "told"] ["list", "_grouping_intervals", "len"] := Fn.of (by decide +kernel)
def wayL (a b : Int) (n k : Nat) : List Int := if k = 0 then [a, b, 0] else if k = 1 then a :: List.replicate n b else if k = 2 then [a, b, b, 0, 127] else a :: List.replicate n b ++ [127, a]
/-- the marks, i of them -/
def ms (out : Nat → Option Int) : Nat → List Int
  | 0 => []
  | i + 1 => ms out i ++ [(out i).getD 0 + (ms out i).getLastD 0]
theorem ms_len (out : Nat → Option Int) : ∀ i, (ms out i).length = i
  | 0 => rfl
  | i + 1 => by unfold ms; rw [List.length_append, ms_len out i]; rfl
theorem wayL_len (a b : Int) (n k : Nat) : (wayL a b n k).length ≤ n + 5 := by
  unfold wayL
  split
  · simp
  · split
    · simp
    · split
      · simp
      · simp
/-- how many marks -/
def mT (n k : Nat) : Nat := if k % 2 = 0 then n + 3 else n + 1
theorem ivals_len (l : List (Int × Tok)) : (ivals l).length = l.length := by unfold ivals; rw [List.length_map]
section
variable {prog : Program} {w : World} {A : Around} {h : Heap} {g : Array GenState} {dr : Drawn} {t : Nat} {os : OsState} {f : Addr} {mg mb : Str → Option Value} {E : Value → Shared → Prop} {Q : Value → Shared → Prop}
theorem if_post {c : Prop} [Decidable c] {α : Type} {t1 t2 : Sem α} {s : Shared} {P : α → Shared → Prop} (P' : α → Shared → Prop) (x : if c then W prog w A t1 P' E s else W prog w A t2 P' E s) (hq : ∀ a s, P' a s → P a s) : if c then W prog w A t1 P E s else W prog w A t2 P E s := by
  split at x
  · rename_i hc; rw [if_pos hc]; exact x.post hq
  · rename_i hc; rw [if_neg hc]; exact x.post hq
theorem last_at (out : Nat → Option Int) (lm : List (Int × Tok)) (i : Nat) (hlm : lm.map (·.1) = ms out i) (hne : lm ≠ []) : ∃ u, (ivals lm)[lm.length - 1]? = some (.int ((ms out i).getLastD 0) u) := by
  have hl : 0 < lm.length := List.length_pos_iff.mpr hne
  refine ⟨(lm[lm.length - 1]'(by omega)).2, ?_⟩
  unfold ivals
  rw [List.getElem?_map, List.getElem?_eq_getElem (by omega)]
  have : (ms out i).getLastD 0 = (lm[lm.length - 1]'(by omega)).1 := by
    rw [← hlm, List.getLastD_eq_getLast?, List.getLast?_eq_getElem?, List.getElem?_map, List.length_map, List.getElem?_eq_getElem (by omega)]
    rfl
  rw [this]
  rfl
/-- the state at the head of the loop -/
def MI (prog : Program) (w : World) (A : Around) (h : Heap) (g : Array GenState) (dr : Drawn) (os : OsState) (L Lg l K a M b3 : Addr) (cd3 : Value) (ol oK og : Obj) (li : List (Int × Tok)) (out : Nat → Option Int) (vs : List (Option Value)) (i : Nat) (s : Shared) : Prop :=
  ∃ h' t' gs told lm oM, s = ⟨h', g.push gs, dr, t', os⟩ ∧ gs.bare = true ∧ IsLs oM (ivals lm) ∧ lm.map (·.1) = ms out i ∧
    ((i = 0 ∧ gs = .fresh (.func (D 3).body (env3 Lg b3 cd3)) ∧ ∃ oF, IsNs oF (loc N3 [some (.ref l), none, none]) ∧ Led h L (loc N13 (vs ++ [told])) h' [(Lg, oF), (M, oM), (a, og), (K, oK), (l, ol)]) ∨
     (∃ I oF oI, Led h L (loc N13 (vs ++ [told])) h' [(Lg, oF), (I, oI), (M, oM), (a, og), (K, oK), (l, ol)] ∧ Gp prog w A.in1 l Lg b3 cd3 (li.map (·.1)) out I i gs oF oI))
theorem c_marks {a b : Int} {n k : Nat} {ta tb tn tk : Tok} {j : Nat} (Gb : Glb mg mb h) (hf : IsFn (D 13) h f) (hR : Rm A (j + 2)) (hn : n ≤ 17) (hk : k < 4)
    (h0 : a ≠ 0) (hT : ∀ i, i < mT n k → ∃ x, gout none (wayL a b n k) i = some x) (hE : k % 2 = 1 → gout none (wayL a b n k) (n + 1) = none)
    (q : ∀ h' t' gs M oM lm, Keeps h h' → gs.bare = true → h.get? M = none → h'.get? M = some oM → IsLs oM (ivals lm) → lm.map (·.1) = ms (gout none (wayL a b n k)) (mT n k) → Q (.ref M) ⟨h', g.push gs, dr, t', os⟩) :
    W prog w A (call (.ref f) [.int a ta, .int b tb, .int (n : Nat) tn, .int (k : Nat) tk]) Q E ⟨h, g, dr, t, os⟩ := by
  refine enterF fn13 Gb hf hR ?_
  intro cd L h₁ t₁ S
  have hR' := hR.deeper (envOf (D 13).name (D 13).scope L f cd)
  refine w_cons (w_assign (w_list (w_args (w_list (w_args (w_ld fn13.cx S 0 (w_args (w_ld fn13.cx S 1 (w_args (w_int fun u1 t1 => w_args0 ?_))))))))))
  refine w_newlist S (small (Nat.le_of_ble_eq_true rfl)) fun p1 h₂ S => ?_
  refine w_args (w_binop (w_list (w_args (w_ld fn13.cx S 0 (w_args0 ?_)))))
  refine w_newlist S (small (Nat.le_of_ble_eq_true rfl)) fun e1 h₃ S => ?_
  refine w_binop (w_list (w_args (w_ld fn13.cx S 1 (w_args0 ?_))))
  refine w_newlist S (small (Nat.le_of_ble_eq_true rfl)) fun e2 h₄ S => w_ld fn13.cx S 2 ?_
  refine w_lmul1 S (lget S 0 rfl) (by omega) (by omega) fun e3 h₅ S => ?_
  rw [Int.toNat_natCast] at S
  refine w_ladd S (isList_of (lget S 2 rfl)) (isList_of (lget S 0 rfl)) (small (by rw [List.length_replicate, List.length_singleton]; omega)) fun p2 h₆ S => ?_
  refine w_args (w_list (w_args (w_ld fn13.cx S 0 (w_args (w_ld fn13.cx S 1 (w_args (w_ld fn13.cx S 1 (w_args (w_int fun u2 t2 => w_args (w_int fun u3 t3 => w_args0 ?_))))))))))
  refine w_newlist S (small (Nat.le_of_ble_eq_true rfl)) fun p3 h₇ S => ?_
  refine w_args (w_binop (w_binop (w_list (w_args (w_ld fn13.cx S 0 (w_args0 ?_))))))
  refine w_newlist S (small (Nat.le_of_ble_eq_true rfl)) fun e4 h₈ S => ?_
  refine w_binop (w_list (w_args (w_ld fn13.cx S 1 (w_args0 ?_))))
  refine w_newlist S (small (Nat.le_of_ble_eq_true rfl)) fun e5 h₉ S => w_ld fn13.cx S 2 ?_
  refine w_lmul1 S (lget S 0 rfl) (by omega) (by omega) fun e6 h₁₀ S => ?_
  rw [Int.toNat_natCast] at S
  refine w_ladd S (isList_of (lget S 2 rfl)) (isList_of (lget S 0 rfl)) (small (by rw [List.length_replicate, List.length_singleton]; omega)) fun e7 h₁₁ S => ?_
  refine w_list (w_args (w_int fun u4 t4 => w_args (w_ld fn13.cx S 0 (w_args0 ?_))))
  refine w_newlist S (small (Nat.le_of_ble_eq_true rfl)) fun e8 h₁₂ S => ?_
  refine w_ladd S (isList_of (lget S 1 rfl)) (isList_of (lget S 0 rfl)) (small (by rw [List.length_append, List.length_replicate, List.length_singleton]; simp only [List.length_cons, List.length_nil]; omega)) fun p4 h₁₃ S => w_args0 ?_
  refine w_newlist S (small (Nat.le_of_ble_eq_true rfl)) fun W4 h₁₄ S => ?_
  refine w_st fn13.cx S 4 fun h₁₅ t5 S => ?_
  refine w_then (fun s => ∃ h' t' l ol li v4, s = ⟨h', g, dr, t', os⟩ ∧ IsLs ol (ivals li) ∧ li.map (·.1) = wayL a b n k ∧ Led h L (loc N13 [some (.int a ta), some (.int b tb), some (.int n tn), some (.int k tk), some v4, some (.ref l), none, none, none]) h' [(l, ol)]) ?_ ?_
  · refine w_assign (w_item (w_ld fn13.cx S 4 (w_ld fn13.cx S 3 ?_)))
    obtain ⟨l, ol, li, hp, hol, hli, hin⟩ : ∃ l ol li, [Value.ref p1, .ref p2, .ref p3, .ref p4][((k : Nat) : Int).toNat]? = some (Value.ref l) ∧ IsLs ol (ivals li) ∧ li.map (·.1) = wayL a b n k ∧
        Led h L (loc N13 [some (.int a ta), some (.int b tb), some (.int n tn), some (.int k tk), some (.ref W4), none, none, none, none]) h₁₅ [(l, ol)] := by
      have er : ∀ (v : Int) (u : Tok), List.replicate n (Value.int v u) = ivals (List.replicate n (v, u)) := fun v u => by unfold ivals; rw [List.map_replicate]
      obtain rfl | rfl | rfl | rfl : k = 0 ∨ k = 1 ∨ k = 2 ∨ k = 3 := by omega
      · exact ⟨p1, _, [(a, ta), (b, tb), (0, u1)], rfl, isLs_lst _ 0, rfl, lsub S (List.singleton_sublist.mpr (List.mem_of_getElem? (i := 12) rfl))⟩
      · refine ⟨p2, _, (a, ta) :: List.replicate n (b, tb), rfl, ?_, ?_, lsub S (List.singleton_sublist.mpr (List.mem_of_getElem? (i := 8) rfl))⟩
        · rw [er]; exact isLs_lst _ 0
        · rw [List.map_cons, List.map_replicate]; rfl
      · exact ⟨p3, _, [(a, ta), (b, tb), (b, tb), (0, u2), (127, u3)], rfl, isLs_lst _ 0, rfl, lsub S (List.singleton_sublist.mpr (List.mem_of_getElem? (i := 7) rfl))⟩
      · refine ⟨p4, _, (a, ta) :: List.replicate n (b, tb) ++ [(127, u4), (a, ta)], rfl, ?_, ?_, lsub S (List.singleton_sublist.mpr (List.mem_of_getElem? (i := 1) rfl))⟩
        · have e : ivals ((a, ta) :: List.replicate n (b, tb) ++ [(127, u4), (a, ta)]) = [Value.int a ta] ++ List.replicate n (Value.int b tb) ++ [Value.int 127 u4, .int a ta] := by
            rw [er]; unfold ivals; rw [List.map_append]; rfl
          rw [e]; exact isLs_lst _ 0
        · rw [List.map_append, List.map_cons, List.map_replicate]; rfl
    refine w_li (isList_of (lget S 0 rfl)) (by omega) (by omega) hp ?_
    refine w_st fn13.cx hin 5 fun h₁₆ t6 S => ?_
    exact ⟨rfl, h₁₆, t6, l, ol, li, _, rfl, hol, hli, S⟩
  rintro s ⟨h₂, t2, l, ol, li, v4, rfl, hol, hli, S⟩
  have hlen : (ivals li).length ≤ 22 := by
    have := wayL_len a b n k
    rw [← hli, List.length_map] at this
    rw [ivals_len]; omega
  refine w_cons (w_assign (w_callt fn13.cx S Gb bo_list (w_args (w_ld fn13.cx S 5 (w_args0 ?_)))))
  refine w_lcopy S (isList_ls (lget S 0 rfl) hol) (small (by omega)) fun K nK h₃ S => ?_
  refine w_st fn13.cx S 6 fun h₄ t3 S => ?_
  refine w_cons (w_assign (w_list (w_args0 ?_)))
  refine w_newlist S (small (Nat.le_of_ble_eq_true rfl)) fun M h₅ S => ?_
  refine w_st fn13.cx S 7 fun h₆ t4 S => ?_
  generalize hout : gout none (wayL a b n k) = out at hT hE q
  refine w_then (fun s => ∃ h' t' gs told lm oM, s = ⟨h', g.push gs, dr, t', os⟩ ∧ gs.bare = true ∧ IsLs oM (ivals lm) ∧ lm.map (·.1) = ms out (mT n k) ∧
    Led h L (loc N13 [some (.int a ta), some (.int b tb), some (.int n tn), some (.int k tk), some v4, some (.ref l), some (.ref K), some (.ref M), told]) h' [(M, oM), (K, lst (ivals li) nK), (l, ol)]) ?_ ?_
  · refine w_for (w_call fn13.cx S Gb 3 fun b3 => ?_)
    refine w_args (w_ld fn13.cx S 5 (w_args0 ⟨S.fr.keep, fun hf' Gb' => ?_⟩))
    refine c_gen Gb' hf' hR' fun h₇ t5 cd3 Lg oF og K7 hLg hoF hF hog hfr => ?_
    have S := lnew (ladd S K7 hLg hoF) og hfr
    generalize ha : h₇.objs.size = aG at S ⊢
    generalize h₇.push og = h₈ at S ⊢
    refine w_iter_gen (lget S 0 rfl) hog ?_
    have S : Led h L _ h₈ [(Lg, oF), (M, lst [] 0), (aG, og), (K, lst (ivals li) nK), (l, ol)] := lperm S (by
      refine (List.Perm.cons _ (List.Perm.swap _ _ _)).trans ?_
      exact List.Perm.swap _ _ _)
    refine c_for (fun m s => ∃ i, m = mT n k + 1 - i ∧ i ≤ mT n k ∧ (i = mT n k → k % 2 = 1) ∧ MI prog w (A.deeper (envOf (D 13).name (D 13).scope L f cd)) h g dr os L Lg l K aG M b3 cd3 ol (lst (ivals li) nK) og li out
      [some (.int a ta), some (.int b tb), some (.int n tn), some (.int k tk), some v4, some (.ref l), some (.ref K), some (.ref M)] i s) ?_ (mT n k + 1) ⟨0, rfl, Nat.zero_le _, fun e => ?_, h₈, _, _, _, [], _, rfl, rfl, isLs_lst _ 0, rfl, .inl ⟨rfl, rfl, oF, hF, S⟩⟩
    · rintro m s ⟨i, rfl, hi, hiT, h', t', gs, told, lm, oM, rfl, hbare, hoM, hlm, hst⟩
      have hgs : (g.push gs)[g.size]? = some gs := by rw [Array.getElem?_push, if_pos rfl]
      by_cases hit : i = mT n k
      · subst hit
        have hk1 := hiT rfl
        have eT : mT n k = n + 1 := by unfold mT; rw [if_neg (by omega)]
        rcases hst with ⟨e0, _⟩ | ⟨I, oF', oI', S, gp⟩
        · omega
        refine n_stop S Gb hR' (List.mem_of_getElem? (i := 3) rfl) hol (List.mem_of_getElem? (i := 1) rfl) hog hgs gp (by rw [eT]; exact hE hk1) fun h₉ t6 S => ?_
        rw [push_set]
        exact ⟨rfl, h₉, t6, .finished, told, lm, oM, rfl, rfl, hoM, hlm, lsub S (List.Sublist.cons_cons _ (List.Sublist.cons _ (List.Sublist.refl _)))⟩
      · have hlt : i < mT n k := by omega
        obtain ⟨x, hx⟩ := hT i hlt
        refine W.post (Q := fun r s => ∃ h' t' u gs' I oF' oI', r = some (.int x u) ∧ s = ⟨h', g.push gs', dr, t', os⟩ ∧ gs'.bare = true ∧
          Led h L (loc N13 ([some (.int a ta), some (.int b tb), some (.int n tn), some (.int k tk), some v4, some (.ref l), some (.ref K), some (.ref M)] ++ [told])) h' [(Lg, oF'), (I, oI'), (M, oM), (aG, og), (K, lst (ivals li) nK), (l, ol)] ∧
          Gp prog w (A.deeper (envOf (D 13).name (D 13).scope L f cd)).in1 l Lg b3 cd3 (li.map (·.1)) out I (i + 1) gs' oF' oI') ?_ ?_
        · rcases hst with ⟨e0, rfl, oF', hF', S⟩ | ⟨I, oF', oI', S, gp⟩
          · subst e0
            have ho : gout none (li.map (·.1)) = out := by rw [hli, hout]
            refine n_first S Gb hR' (List.mem_of_getElem? (i := 3) rfl) hol (List.mem_of_getElem? (i := 1) rfl) hog hgs hF' ?_ (by rw [ho]; exact hx) fun h₉ t6 u gs' I oF'' oI'' S gp hb => ?_
            · rw [hli]
              have : (wayL a b n k)[0]? = some a := by
                unfold wayL
                obtain rfl | rfl | rfl | rfl : k = 0 ∨ k = 1 ∨ k = 2 ∨ k = 3 := by omega
                all_goals rfl
              rw [this]
              intro e
              exact h0 (Option.some.inj e)
            rw [push_set]
            rw [ho] at gp
            exact ⟨h₉, t6, u, gs', I, oF'', oI'', rfl, rfl, hb, S, gp⟩
          · refine n_next S Gb hR' (List.mem_of_getElem? (i := 3) rfl) hol (List.mem_of_getElem? (i := 1) rfl) hog hgs gp hx fun h₉ t6 u gs' oF'' oI'' S gp hb => ?_
            rw [push_set]
            exact ⟨h₉, t6, u, gs', I, oF'', oI'', rfl, rfl, hb, S, gp⟩
        rintro r s ⟨h₉, t6, u, gs', I, oF', oI', rfl, rfl, hb, S, gp⟩
        refine w_asg ?_
        refine w_st fn13.cx S 8 (vs' := [some (.int a ta), some (.int b tb), some (.int n tn), some (.int k tk), some v4, some (.ref l), some (.ref K), some (.ref M), some (.int x u)]) (fun h₁₀ t7 S => ?_) rfl rfl rfl
        have hml : lm.length = i := by have := congrArg List.length hlm; rw [List.length_map, ms_len] at this; exact this
        have hiv : (ivals lm).length = i := by rw [ivals_len, hml]
        have hi20 : i ≤ 20 := by unfold mT at hlt; split at hlt <;> omega
        refine w_cons (w_expr (w_append (w_ld fn13.cx S 7 ⟨M, oM, ivals lm, rfl, lget S 2 rfl, hoM, w_binop (w_ld fn13.cx S 8 (w_ifexp (w_tplain (w_ld fn13.cx S 7 ?_))))⟩)))
        refine w_tlist (isList_ls (lget S 2 rfl) hoM) (by omega) fun t8 => ?_
        refine if_post (fun r s => ∃ t' u', r = Value.int ((ms out i).getLastD 0) u' ∧ s = ⟨h₁₀, g.push gs', dr, t', os⟩) ?_ ?_
        · by_cases hne : lm = []
          · subst hne
            have e0 : i = 0 := hml.symm
            subst e0
            rw [if_neg (by decide)]
            exact w_int fun u2 t9 => ⟨t9, u2, rfl, rfl⟩
          · obtain ⟨u1, hu⟩ := last_at out lm i hlm hne
            have hpos : 0 < lm.length := List.length_pos_iff.mpr hne
            have hnE : (!(ivals lm).isEmpty) = true := by
              cases lm with
              | nil => exact absurd rfl hne
              | cons => rfl
            rw [if_pos hnE]
            refine w_item (w_ld fn13.cx S 7 (w_unary (w_int fun u2 t9 => w_neg fun u3 t10 => ?_)))
            have e : (-1 + ((ivals lm).length : Int)).toNat = lm.length - 1 := by rw [ivals_len]; omega
            exact w_lneg (x := -1) (isList_ls (lget S 2 rfl) hoM) (by decide) (by omega) (by decide) (by rw [e]; exact hu) ⟨t10, u1, rfl, rfl⟩
        rintro r s ⟨t9, u2, rfl, rfl⟩
        refine w_add fun u3 t10 => ?_
        refine w_appendb S 2 rfl hoM (small (by omega)) fun h₁₁ oM' S hoM' => ⟨(fun _ e => nomatch e), ?_⟩
        have hoM' : IsLs oM' (ivals (lm ++ [(x + (ms out i).getLastD 0, u3)])) := by unfold ivals at hoM' ⊢; rw [List.map_append]; exact hoM'
        have hlm' : (lm ++ [(x + (ms out i).getLastD 0, u3)]).map (·.1) = ms out (i + 1) := by rw [List.map_append, hlm]; show _ = ms out i ++ [(out i).getD 0 + (ms out i).getLastD 0]; rw [hx]; rfl
        have hiv' : (ivals (lm ++ [(x + (ms out i).getLastD 0, u3)])).length = i + 1 := by rw [ivals_len, List.length_append, hml]; rfl
        refine w_cons (w_if (w_tcmp (w_callb fn13.cx S Gb bo_len (w_args (w_ld fn13.cx S 7 (w_args0 ?_))))))
        refine w_lenl (isList_ls (lget S 2 rfl) hoM') (small (by omega)) fun u4 t11 => w_binop (w_ld fn13.cx S 2 (w_int fun u5 t12 => w_add fun u6 t13 => w_eq (w_tbool ?_)))
        rw [hiv']
        have S : Led h L _ h₁₁ [(Lg, oF'), (I, oI'), (M, oM'), (aG, og), (K, lst (ivals li) nK), (l, ol)] := S
        by_cases hbr : i + 1 = n + 3
        · have eb : (((i + 1 : Nat) : Int) == ((n : Int) + 3)) = true := by rw [beq_iff_eq]; omega
          rw [eb, if_pos rfl]
          have eT : mT n k = i + 1 := by unfold mT at hlt ⊢; split at hlt <;> rename_i hk2 <;> first | rw [if_pos hk2] | rw [if_neg hk2]
                                         all_goals omega
          refine w_cons (w_brk ⟨rfl, h₁₁, t13, gs', _, _, oM', rfl, hb, hoM', by rw [eT]; exact hlm', lsub S ?_⟩)
          exact List.Sublist.cons _ (List.Sublist.cons _ (List.Sublist.cons_cons _ (List.Sublist.cons _ (List.Sublist.refl _))))
        · have eb : (((i + 1 : Nat) : Int) == ((n : Int) + 3)) = false := by rw [beq_eq_false_iff_ne]; omega
          rw [eb, if_neg Bool.false_ne_true]
          refine w_nil (w_nil ⟨mT n k + 1 - (i + 1), by omega, i + 1, rfl, by omega, fun e => ?_, h₁₁, t13, gs', some (.int x u), _, oM', rfl, hb, hoM', hlm', .inr ⟨I, oF', oI', S, gp⟩⟩)
          unfold mT at e
          split at e <;> omega
    · exfalso
      have : mT n k = 0 := e.symm
      unfold mT at this
      split at this <;> omega
  rintro s ⟨h₇, t5, gs, told, lm, oM, rfl, hb, hoM, hlm, S⟩
  have hml : (ivals lm).length = mT n k := by have := congrArg List.length hlm; rw [List.length_map, ms_len] at this; rw [ivals_len]; exact this
  have hmT : mT n k ≤ 20 := by unfold mT; split <;> omega
  refine w_cons (w_if (w_tor (w_tcmp (w_ld fn13.cx S 5 (w_ld fn13.cx S 6 ?_)))))
  refine w_neints hR' (lget S 2 rfl) hol (lget S 1 rfl) (isLs_lst _ nK) (w_tbool ?_)
  rw [if_neg Bool.false_ne_true]
  refine w_tor (w_tcmp (w_callb fn13.cx S Gb bo_len (w_args (w_ld fn13.cx S 7 (w_args0 ?_)))))
  refine w_lenl (isList_ls (lget S 0 rfl) hoM) (small (by omega)) fun u4 t11 => w_ifexp (w_tplain (w_binop (w_ld fn13.cx S 3 (w_int fun u5 t12 => w_mod (by decide) fun u6 t13 => w_tint ?_))))
  rw [hml]
  refine if_post (fun r s => ∃ t' u', r = Value.int ((mT n k : Nat) : Int) u' ∧ s = ⟨h₇, g.push gs, dr, t', os⟩) ?_ ?_
  · have em : (k : Int).fmod 2 = ((k % 2 : Nat) : Int) := by rw [Int.fmod_eq_emod_of_nonneg _ (by decide)]; omega
    rw [em]
    by_cases hk2 : k % 2 = 0
    · have e1 : (((k % 2 : Nat) : Int) != 0) = false := by rw [hk2]; rfl
      have e2 : ((mT n k : Nat) : Int) = (n : Int) + 3 := by unfold mT; rw [if_pos hk2]; omega
      rw [e1, if_neg Bool.false_ne_true, e2]
      exact w_binop (w_ld fn13.cx S 2 (w_int fun u7 t14 => w_add fun u8 t15 => ⟨t15, u8, rfl, rfl⟩))
    · have e1 : (((k % 2 : Nat) : Int) != 0) = true := by rw [show k % 2 = 1 by omega]; rfl
      have e2 : ((mT n k : Nat) : Int) = (n : Int) + 1 := by unfold mT; rw [if_neg hk2]; omega
      rw [e1, if_pos rfl, e2]
      exact w_binop (w_ld fn13.cx S 2 (w_int fun u7 t14 => w_add fun u8 t15 => ⟨t15, u8, rfl, rfl⟩))
  rintro r s ⟨t14, u7, rfl, rfl⟩
  refine w_ne (w_tbool ?_)
  rw [bne_self_eq_false, if_neg Bool.false_ne_true]
  refine w_tor0 ?_
  rw [if_neg Bool.false_ne_true]
  refine w_nil (w_cons (w_ret (w_ld fn13.cx S 7 ?_)))
  exact q h₇ t14 gs M oM lm S.fr.keep hb (S.nw _ (.head _)).2.2 (lget S 0 rfl) hoM hlm
end
end Mine
namespace Mine
/-- an exception on its way: all that was stays but the frames' marks -/
def Fly (B : Heap) (l : List Env) (e : Addr) (cls a0 fl : Value) (h : Heap) : Prop :=
  B.StaysIn h ∧ B.get? e = none ∧ h.FunFrames B l ∧ h.TracedAtW B e cls a0 fl
theorem sub_vs : isSubtype (.type "ValueError") (.type "StopIteration") = pure false := by rw [isSubtype_type]; rfl
section
variable {prog : Program} {w : World} {A : Around} {E : Value → Shared → Prop} {s : Shared} {B : Heap} {l : List Env} {e L : Addr} {cls a0 fl : Value} {U : Unit → Shared → Prop} {env : Env} {outer : List Env}
theorem w_setFlight {fr : Option Addr} (R : Fly B l e cls a0 fl s.heap) (k : ∀ h', Fly B l e cls a0 (fr.elim Value.none fun f => rawInt f) h' → s.heap.UpToSlots h' → U () { s with heap := h' }) : W prog w A (setFlight (.ref e) fr) U E s := by
  obtain ⟨hkb, hen, hl, oe, vs, T, oT, ts, he, hcls, hd, h1, hnT, hTe, hT, hdT, h3⟩ := R
  have hsz3 : 3 < ts.size := (Array.getElem?_eq_some_iff.mp h3).1
  have other : ∀ b, b ≠ T → (s.heap.update T (Obj.mapFields (·.setIfInBounds 3 (fr.elim Value.none fun f => rawInt f)))).get? b = s.heap.get? b :=
    fun b hb => Heap.get?_update_other _ _ (Ne.symm hb)
  have noRecord : ∀ b o, s.heap.get? b = some o → (∀ vs, o.data ≠ .fields vs) → b ≠ T := fun b o hb hnf q => by
    rw [q, hT] at hb; injection hb with hb; subst hb; exact hnf ts hdT
  refine ⟨?_⟩
  unfold setFlight
  refine wpAny_bind (wpAny_field he hd h1 ?_)
  rw [if_pos (show (Value.ref T != Value.none) = true from by simp)]
  refine wpAny_setField hT hdT hsz3 (k _ ⟨fun b o hbo => (other b fun q => by rw [q, hnT] at hbo; cases hbo).trans (hkb b o hbo), hen,
    hl.of_keeps fun b o hb hnf => ⟨o, (other b (noRecord b o hb hnf)).trans hb, rfl⟩, ?_⟩ fun b o hb hnf => ⟨o.slots, (other b (noRecord b o hb hnf)).trans hb⟩)
  exact ⟨oe, vs, T, _, _, (other e (Ne.symm hTe)).trans he, hcls, hd, h1, hnT, hTe, Heap.get?_update_self _ hT (Obj.isFreed_of_fields (Obj.data_mapFields hdT _)), Obj.data_mapFields hdT _, by simp [hsz3]⟩
/-- the first frame is noted -/
theorem w_note1 {oe : Obj} {vs : Array Value} (hfr : A.frames = some (env :: outer)) (hl : s.heap.FunFrames B (env :: outer)) (hf : env.frame = some L) (he : s.heap.get? e = some oe) (hkb : B.StaysIn s.heap) (hen : B.get? e = none)
    (hd : oe.data = .fields vs) (h1 : vs[1]? = some .none) (h0 : vs[0]? = some a0) (k : ∀ h', Fly B (env :: outer) e oe.cls a0 (rawInt L) h' → s.heap.UpToSlots h' → U () { s with heap := h' }) : W prog w A (noteFrame (.ref e) env) U E s := by
  refine ⟨?_⟩
  unfold noteFrame
  simp only [hf]
  refine wpAny_bind (wpAny_field he hd h1 ?_)
  rw [if_neg (by decide)]
  exact wpAny_entryW hfr hl hf he hkb hen hd (Array.getElem?_eq_some_iff.mp h1).1 h0 fun h' ⟨k1, k2, k3, k4⟩ => k h' ⟨k1, hen, k2, k3⟩ k4
/-- the next frame is noted -/
theorem w_note2 (hfr : A.frames = some (env :: outer)) (hf : env.frame = some L) (R : Fly B (env :: outer) e cls a0 .none s.heap) (k : ∀ h', Fly B (env :: outer) e cls a0 (rawInt L) h' → s.heap.UpToSlots h' → U () { s with heap := h' }) : W prog w A (noteFrame (.ref e) env) U E s :=
  ⟨wpAny_looks_onW hfr hf R fun h' hh hs => k h' hh hs⟩
/-- noted already -/
theorem w_note3 (hf : env.frame = some L) (R : Fly B l e cls a0 (rawInt L) s.heap) (k : U () s) : W prog w A (noteFrame (.ref e) env) U E s := ⟨wpAny_noteFrame_againW hf R.2.2.2 k⟩
theorem w_back (hf : env.frame = some L) (R : Fly B l e cls a0 fl s.heap) (k : ∀ h', Fly B l e cls a0 (rawInt L) h' → s.heap.UpToSlots h' → U () { s with heap := h' }) :
    W prog w A (do if (← field (.ref e) 1) == Value.none then unsupported "frame.own-activation:exception-without-traceback"
                   setFlight (.ref e) env.frame) U E s := by
  obtain ⟨_, _, _, oe, vs, T, oT, ts, he, hcls, hd, h1, _⟩ := id R
  refine ⟨wpAny_bind (wpAny_field he hd h1 ?_)⟩
  rw [if_neg (show ¬ ((Value.ref T == Value.none) = true) from by simp)]
  have := (w_setFlight (prog := prog) (w := w) (A := A) (E := E) (fr := some L) R k).out
  rw [hf]
  exact this
theorem w_leave (hf : env.frame = some L) (R : Fly B (env :: outer) e cls a0 (rawInt L) s.heap) (k : ∀ h', Fly B outer e cls a0 .none h' → s.heap.UpToSlots h' → U () { s with heap := h' }) : W prog w A (leaving env (.ref e)) U E s := by
  refine ⟨?_⟩
  unfold leaving
  refine wpAny_bind (w_note3 hf R ?_).out
  refine (w_setFlight (fr := none) R fun h' R' hs => k h' ⟨R'.1, R'.2.1, R'.2.2.1.2.2, R'.2.2.2⟩ hs).out
variable {c : Code} {fs : List Frame} {P : End → Shared → Prop} {K : Flow → Sem Fin} {H : Value → Sem Fin} {gd : Bool → Bool} {lv : List Value → List Value}
theorem sx_unit {m : Sem Unit} {x : Value} (h : W prog w (A.over c fs) m (fun _ s' => SX prog w A c (.raise x) fs s' P) NoE s) : SX prog w A c (m.bind fun _ => .raise x) fs s P := by
  have e : (m.bind fun _ => (.raise x : Sem Fin)) = m.wrap (fun _ => .raise x) .raise id id := Sem.bind_eq_wrap m _
  rw [e]
  exact sx_w h
theorem sx_popE {c₁ : Code} {p₁ : Pos} {x : Value} {g : Bool} {l : List Value} (h : SX prog w A c₁ (ownK env K H gd lv (.error x)) fs s P) : SX prog w A c (.raise x) (.ret (ownK env K H gd lv) none g l c₁ p₁ [] :: fs) s P :=
  ⟨s_pop prog w A c fs P s (.error x) (.raise x) rfl _ _ _ _ _ _ _ h.out⟩
theorem sx_endE {x : Value} (h : P (.ret (.error x)) s) : SX prog w A c (.raise x) [] s P := ⟨s_end prog w A c P s (.error x) _ rfl h⟩
end
theorem ff_keeps {h h' B : Heap} {l : List Env} (k : ∀ b ∈ l.filterMap (·.frame), ∀ o, h.get? b = some o → (∀ vs, o.data ≠ .fields vs) → ∃ o', h'.get? b = some o' ∧ o'.data = o.data) (hl : h.FunFrames B l) : h'.FunFrames B l := by
  induction l with
  | nil => trivial
  | cons env rest ih =>
    obtain ⟨hk, ⟨L, o, hf, hn, ho, hd⟩, hr⟩ := hl
    rw [List.filterMap_cons, hf] at k
    obtain ⟨o', ho', hd'⟩ := k L (.head _) o ho hd
    exact ⟨hk, ⟨L, o', hf, hn, ho', fun vs => hd' ▸ hd vs⟩, ih (fun b hb => k b (.tail _ hb)) hr⟩
section
variable {prog : Program} {w : World} {A : Around} {mg mb : Str → Option Value} {B : Heap} {l Lg I f : Addr} {us : List Value} {v2 v3 : Option Value} {j : Nat} {s : Shared} {cd : Value} {fs : List Frame} {P : End → Shared → Prop} {outer : List Env}
theorem over_frames {c : Code} (hfr : A.frames = some outer) : (A.over c fs).frames = pushEnvs c.envs (pushEnvs (envsOf (fs.map Frame.where_)) (some outer)) := by
  rw [← hfr]; rfl
theorem w_gve (g : GH mg mb B l Lg us I v2 v3 j s) {pos : Pos} {Q : Value → Shared → Prop} {E : Value → Shared → Prop} (k : Q (.type "ValueError") s) : W prog w A (eval (.Name "ValueError" pos) (env3 Lg f cd)) Q E s :=
  ⟨Name_function_global (env := env3 Lg f cd) cx3.kind (cx3.glo "ValueError" (by decide +kernel)).1 (loadGlobal_builtin (env := env3 Lg f cd) (g.gl.g.keeps g.base) (g.gl.bu "ValueError" (by decide +kernel)).1 (g.gl.b.keeps g.base) ((g.gl.bu "ValueError" (by decide +kernel)).2.trans bo_ValueError) k) (cx3.glo "ValueError" (by decide +kernel)).2⟩
theorem g_raise {u0 : Tok} (hh : A.handled = none) (hfr : A.frames = some outer) (Gb : Glb mg mb B) (hn : s.heap.Ns Lg (loc N3 [some (.ref l), none, none])) (hl : s.heap.IsList l us.toArray) (hu : us[0]? = some (.int 0 u0))
    (hb : Keeps B s.heap) (ne : l ≠ Lg) (nb : B.get? Lg = none) (hF : s.heap.FunFrames B outer) (hne : ∀ b ∈ outer.filterMap (·.frame), b ≠ Lg)
    (k : ∀ h' t' e t tk, Fly B outer e (.type "ValueError") (.ref t) .none h' → h'.TupAt t [.str "invalid grouping" tk] → B.get? t = none →
      (∀ b o, b ≠ Lg → s.heap.get? b = some o → (∀ vs, o.data ≠ .fields vs) → ∃ sl, h'.get? b = some { o with slots := sl }) → P (.ret (.error (.ref e))) ⟨h', s.gens, s.drawn, t', s.os⟩) :
    GoX prog w A (.fresh (.func (D 3).body (env3 Lg f cd))) s P := by
  refine sx_func (sx_cons (sx_w (w_assign (w_none ⟨?_⟩))))
  refine wpAny_storeName_local (env := env3 Lg f cd) (cx3.loc "last_interval" (by decide +kernel)).1 hn (fun h₁ hn₁ hs₁ => ?_) (by show ((D 3).scope.kind == .class || ((D 3).scope.kind == .module && Lg != mainGlobals)) = false; rw [cx3.kind]; rfl)
  have hn₁ : h₁.Ns Lg (loc N3 [some (.ref l), some .none, none]) := by
    have e : (fun y => if y = (Str.ofString "last_interval") then some Value.none else loc N3 [some (.ref l), none, none] y) = loc N3 [some (.ref l), some .none, none] := loc_set (i := 1) cx3.nd rfl rfl
    exact e ▸ hn₁
  have hl₁ : h₁.IsList l us.toArray := hl.extBut hs₁.extBut ne
  refine sx_cons (sx_for ⟨?_⟩)
  refine wpAny_Name (wpAny_loadName_local (env := env3 Lg f cd) cx3.kind (cx3.loc "grouping" (by decide +kernel)).1 hn₁ (v := .ref l) (loc_at (i := 0) cx3.nd rfl rfl) ⟨?_⟩) (cx3.loc "grouping" (by decide +kernel)).2
  refine wpAny_pyIter_list hl₁ fun p => ?_
  have hsz : h₁.objs.size = s.heap.objs.size := hs₁.1
  have neI : ∀ b o, s.heap.get? b = some o → b ≠ h₁.objs.size := fun b o e => by rw [hsz]; exact Nat.ne_of_lt (Heap.lt_size e)
  have nbI : B.get? h₁.objs.size = none := by
    cases q : B.get? h₁.objs.size with
    | none => rfl
    | some o => exact absurd rfl (neI _ _ (hb _ _ q))
  have nLI : Lg ≠ h₁.objs.size := by obtain ⟨o, _, _, ho, _⟩ := hn; exact neI _ _ ho
  have nlI : l ≠ h₁.objs.size := by obtain ⟨o, ho, _⟩ := hl; exact neI _ _ ho
  have go : ∀ s', Eff Lg h₁.objs.size s s' → GH mg mb B l Lg us h₁.objs.size (some .none) none 0 s' → SX prog w A (cL Lg f cd h₁.objs.size) (denote table (cL Lg f cd h₁.objs.size))
      [.ret (ownK (env3 Lg f cd) (fun x => match x with | .next => (execs [] (env3 Lg f cd)).wrap funK (funH (env3 Lg f cd)) id id | x => funK x) (funH (env3 Lg f cd)) id id) none false [] (.func (D 3).body (env3 Lg f cd)) p []] s' P := by
    intro s' ee g
    refine sx_forTurn (w_gnext g hu fun s1 e1 g1 => w_asg (w_gst g1 2 fun s2 e2 g2 => ?_))
    refine sx_cons (sx_if (w_tcmp (w_gld g2 2 (w_gmax g2 fun u' => w_eqg (w_tbool ?_)))))
    rw [show ((0 : Int) == 127) = false from rfl, if_neg Bool.false_ne_true]
    refine sx_nil (sx_cons (sx_if (w_tcmp (w_gld g2 2 (w_intg fun u' t' => w_eqg (w_tbool ?_))))))
    rw [show ((0 : Int) == 0) = true from rfl, if_pos rfl]
    have g3 := g2.tok t'
    have e3 := ee.trans (e1.trans (e2.trans (Eff.tok t')))
    generalize (⟨s2.heap, s2.gens, s2.drawn, t', s2.os⟩ : Shared) = s3 at g3 e3 ⊢
    refine sx_cons (sx_if (w_tcmp (w_gld g3 1 (w_none ⟨is_none_none (w_tbool ?_)⟩))))
    rw [if_pos rfl]
    refine sx_cons (sx_we (E := fun x s4 => ∃ h4 t4 e tk, x = .ref e ∧ s4 = ⟨h4, s.gens, s.drawn, t4, s.os⟩ ∧ Heap.MadeExc s3.heap h4 e "ValueError" [.str "invalid grouping" tk]) ⟨?_⟩ ?_)
    · refine wpAny_Raise_call F.excCall_ValueError F.excRaise_ValueError ?_ rfl ?_
      · show (marksOver _ (A.handled, A.handled)).1 = none
        rw [hh]; rfl
      refine (w_gve g3 ⟨rfl, ?_⟩).out
      obtain ⟨h3, t3, rfl, hk3⟩ := e3
      refine evalArgs_plain ?_
      refine W.out (w_args (w_str fun u2 t4 => w_args0 ⟨rfl, small (Nat.le_of_ble_eq_true rfl), fun h4 e hm => ?_⟩))
      exact ⟨h4, _, e, u2, rfl, rfl, hm⟩
    · rintro x s4 ⟨h4, t4, e, tk, rfl, rfl, hm⟩
      obtain ⟨h3, t3, rfl, hk3⟩ := e3
      obtain ⟨t, het, htn, htt⟩ := hm.there
      have kB : B.StaysIn h4 := fun b o e => hm.keeps b o (g3.base b o e)
      have fresh : ∀ b, h3.get? b = none → B.get? b = none := fun b hb => by
        cases hq : B.get? b with
        | none => rfl
        | some o' => have := g3.base b o' hq; have this : h3.get? b = some o' := this; rw [hb] at this; cases this
      have kF : ∀ b o, b ≠ Lg → s.heap.get? b = some o → h4.get? b = some o := fun b o n e => hm.keeps b o (hk3 b o n (neI b o e) e)
      have FF : h4.FunFrames B (env3 Lg f cd :: outer) := by
        obtain ⟨o, es, ep, ho, hd, _⟩ := g3.ns
        refine ⟨by show (D 3).scope.kind ≠ .module; rw [cx3.kind]; decide, ⟨Lg, o, rfl, nb, hm.keeps _ _ ho, fun vs q => by rw [hd] at q; cases q⟩, ff_keeps (fun b hb o e _ => ⟨o, kF b o (hne b hb) e, rfl⟩) hF⟩
      refine sx_unit ⟨?_⟩
      refine wpAny_bind (w_note1 (B := B) (a0 := .ref t) (L := Lg) (env := env3 Lg f cd) (outer := outer) ?_ FF rfl het kB (fresh e hm.new) rfl rfl rfl fun h5 R5 u5 => ?_).out
      · exact (over_frames hfr).trans rfl
      refine wpAny_theTreesLotGoes ?_
      refine sx_popE ?_
      refine sx_we (E := fun x s6 => ∃ h6, x = .ref e ∧ s6 = ⟨h6, s.gens, s.drawn, t4, s.os⟩ ∧ Fly B (env3 Lg f cd :: outer) e (.type "ValueError") (.ref t) (rawInt Lg) h6 ∧ h5.UpToSlots h6) ⟨wpAny_onRaise (wpAny_throw ?_)⟩ ?_
      · exact (w_back (env := env3 Lg f cd) (L := Lg) rfl R5 fun h6 R6 u6 => ⟨h6, rfl, rfl, R6, u6⟩).out
      rintro x s6 ⟨h6, rfl, rfl, R6, u6⟩
      refine sx_w (w_leave (L := Lg) rfl R6 fun h7 R7 u7 => ?_)
      refine sx_endE (k h7 t4 e t tk R7 ?_ (fresh t htn) fun b o n e hd => ?_)
      · exact Heap.TupAt.of_slots ⟨_, _, htt, rfl, rfl⟩ (u5.trans (u6.trans u7))
      · exact (u5.trans (u6.trans u7)) b o (kF b o n e) hd
  refine go _ ⟨_, _, rfl, fun b o n1 _ e => Heap.get?_push_of_some _ (hs₁.extBut b o n1 e)⟩ ⟨hn₁.push _, ⟨_, Heap.get?_push_size _ rfl, rfl, rfl⟩, hl₁.push _, fun b o e => Heap.get?_push_of_some _ (hs₁.extBut b o (fun q => by have q : b = Lg := q; rw [q, nb] at e; cases e) (hb b o e)), Gb, nLI, ne, nlI, nb, nbI⟩
end
end Mine
namespace Mine
def hole (L : Addr) (h : Heap) : Heap := h.update L (fun o => { o with data := .freed })
theorem hole_self (L : Addr) (h : Heap) : (hole L h).get? L = none := by
  cases q : (hole L h).get? L with
  | none => rfl
  | some o =>
    obtain ⟨e1, e2⟩ := Heap.get?_some_iff.mp q
    cases h
    simp only [hole, Heap.update, Array.getElem?_modify, if_true] at e1
    rw [Option.map_eq_some_iff] at e1
    obtain ⟨x, _, rfl⟩ := e1
    cases e2
theorem hole_other {L b : Addr} (h : Heap) (n : b ≠ L) : (hole L h).get? b = h.get? b := Heap.get?_update_other h _ (Ne.symm n)
theorem hole_some {L b : Addr} {h : Heap} {o : Obj} (e : (hole L h).get? b = some o) : b ≠ L ∧ h.get? b = some o := by
  by_cases n : b = L
  · subst n; rw [hole_self] at e; cases e
  · exact ⟨n, by rw [← hole_other h n]; exact e⟩
theorem hole_size (L : Addr) (h : Heap) : (hole L h).objs.size = h.objs.size := Heap.size_after_update ..
section
variable {prog : Program} {w : World} {A : Around} {P : End → Shared → Prop}
/-- a generator is asked for its next, and refuses -/
theorem w_next_raise {n gi : Nat} {a : Addr} {gs : GenState} {s : Shared} {Q : Option Value → Shared → Prop} {E : Value → Shared → Prop} (hR : Rm A n) (hl : s.heap.NoLimit) (hg : s.heap.IsGen a gi) (hgs : s.gens[gi]? = some gs)
    (hgo : GoX prog w A.in1 gs (s.setGen gi .running) P)
    (hP : ∀ en s₁, P en s₁ → ∃ e, en = .ret (.error (.ref e)) ∧ s₁.TypeIs (.ref e) "ValueError" ∧ s₁.heap.IsGen a gi ∧ E (.ref e) (s₁.setGen gi .finished)) : W prog w A (pyNext (.ref a)) Q E s := by
  refine ⟨?_⟩
  unfold pyNext
  refine wpAny_bind (wpAny_attempt (wpAny_callSpecial?_slot (name := Str.ofString "__next__") hg.typeIs slot_gen_next
    (wpAny_call_entry slot_gen_next hg.typeIs entry_gen_next ?_ (args_gen_next _))))
  show wpAny _ _ (Builtin.Generator.genWake (.ref a) (.send .none)) _ _ s
  unfold Builtin.Generator.genWake
  refine wpAny_bind (wpAny_holding (wpAny_genNumber hg (wpAny_bind (wpAny_genState hgs ?_))))
  cases gs with
  | running => exact hgo.elim
  | finished => exact hgo.elim
  | _ =>
    refine wpAny_bind (wpAny_roomToWake hl hR.room ?_)
    show wpAny _ _ (.resume gi (.send .none) [] _) _ _ s
    refine resumeX hgs hgo fun en s₁ hq hp => ?_
    obtain ⟨e, rfl, hT, ⟨og, nm, qn, ho, hc, hd, hsl⟩, hE⟩ := hP en s₁ hp
    show wpAny _ _ (Builtin.Generator.genLeft (.ref a) (.ref e)) _ _ _
    unfold Builtin.Generator.genLeft
    have hT' : (s₁.setGen gi .finished).TypeIs (.ref e) "ValueError" := hT
    refine wpAny_bind (m := Builtin.Generator.madeByALambda (.ref a)) ?_
    unfold Builtin.Generator.madeByALambda
    refine wpAny_bind (wpAny_load ho (wpAny_pure ?_))
    refine wpAny_bind (wpAny_isInstance hT' sub_vs ?_)
    simp only [Bool.and_false, Bool.false_eq_true, if_false]
    unfold Builtin.Generator.genEscaped
    refine wpAny_bind (wpAny_isInstance hT' sub_vs ?_)
    rw [if_pos (show (!false) = true from rfl)]
    refine wpAny_bind (wpAny_throw ?_)
    refine wpAny_bind (wpAny_isInstance hT' sub_vs ?_)
    rw [if_neg Bool.false_ne_true]
    exact wpAny_throw hE
end
abbrev N14 : List Str := ["sizes", "ruler", "told", "refusal"]
theorem fn14 : Fn (D 14) ["sizes"] ["ruler", "told", "refusal"] ["_grouping_intervals", "ValueError", "str"] := Fn.of (by decide +kernel)
section
variable {prog : Program} {w : World} {A : Around} {h : Heap} {g : Array GenState} {dr : Drawn} {t : Nat} {os : OsState} {f : Addr} {mg mb : Str → Option Value} {E : Value → Shared → Prop} {Q : Value → Shared → Prop}
theorem c_refused {l Lo : Addr} {us : List Value} {u0 : Tok} {j : Nat} {envO : Env} {oo : Obj} (Gb : Glb mg mb (hole Lo h)) (hf : IsFn (D 14) h f) (hR : Rm A (j + 2)) (hl : h.IsList l us.toArray) (hu : us[0]? = some (.int 0 u0))
    (hfr : A.frames = some [envO]) (hfo : envO.frame = some Lo) (hko : envO.scope.kind ≠ .module) (ho : h.get? Lo = some oo) (hdict : ∃ es ep, oo.data = .dict es ep)
    (q : ∀ h' t' sl, (∀ b o, b ≠ Lo → h.get? b = some o → h'.get? b = some o) → h'.get? Lo = some { oo with slots := sl } → Q (.bool true) ⟨h', g.push .finished, dr, t', os⟩) :
    W prog w A (call (.ref f) [.ref l]) Q E ⟨h, g, dr, t, os⟩ := by
  have hod : ∀ vs, oo.data ≠ .fields vs := fun vs q => by obtain ⟨es, ep, e⟩ := hdict; rw [e] at q; cases q
  have kh : Keeps (hole Lo h) h := fun b o e => (hole_some e).2
  have Gbh : Glb mg mb h := Gb.keeps kh
  refine enterF fn14 Gbh hf hR ?_
  intro cd L h₁ t₁ S
  have hR' := hR.deeper (envOf (D 14).name (D 14).scope L f cd)
  refine w_cons (w_assign (w_call fn14.cx S Gbh 3 fun b3 => ?_))
  refine w_args (w_ld fn14.cx S 0 (w_args0 ⟨S.fr.keep, fun hf' Gb' => ?_⟩))
  refine c_gen Gb' hf' hR' fun h₂ t2 cd3 Lg oF og K2 hLg hoF hF hog hfr2 => ?_
  have S := lnew (ladd S K2 hLg hoF) og hfr2
  generalize h₂.objs.size = aG at S ⊢
  generalize h₂.push og = h₃ at S ⊢
  refine w_st fn14.cx S 1 fun h₄ t3 S => ?_
  have nLgL : Lg ≠ L := (S.nw (Lg, oF) (List.mem_of_getElem? (i := 1) rfl)).2.1
  have nLgh : h.get? Lg = none := (S.nw (Lg, oF) (List.mem_of_getElem? (i := 1) rfl)).2.2
  have naL : aG ≠ L := (S.nw (aG, og) (List.mem_of_getElem? (i := 0) rfl)).2.1
  have nah : h.get? aG = none := (S.nw (aG, og) (List.mem_of_getElem? (i := 0) rfl)).2.2
  have naLg : aG ≠ Lg := fun e => by have := S.nd; simp only [List.map_cons, List.nodup_cons, List.mem_cons, not_or] at this; exact this.1.1 e
  have nhL : h.get? L = none := by
    cases e : h.get? L with
    | none => rfl
    | some o => exact absurd (Heap.lt_size e) (Nat.not_lt.mpr S.fr.above)
  have nLo : ∀ b, h.get? b = none → b ≠ Lo := fun b e q => by rw [q, ho] at e; cases e
  obtain ⟨oL, esL, epL, hoL, hdL, hL3⟩ := id S.fr.ns
  -- the ground: all but the frames
  generalize hB : hole Lg (hole L (hole Lo h₄)) = B
  have Bs : ∀ b o, B.get? b = some o → b ≠ Lg ∧ b ≠ L ∧ b ≠ Lo ∧ h₄.get? b = some o := fun b o e => by
    rw [← hB] at e
    obtain ⟨n1, e⟩ := hole_some e
    obtain ⟨n2, e⟩ := hole_some e
    obtain ⟨n3, e⟩ := hole_some e
    exact ⟨n1, n2, n3, e⟩
  have Bg : ∀ b o, b ≠ Lg → b ≠ L → b ≠ Lo → h₄.get? b = some o → B.get? b = some o := fun b o n1 n2 n3 e => by
    rw [← hB, hole_other _ n1, hole_other _ n2, hole_other _ n3]; exact e
  have BLg : B.get? Lg = none := by rw [← hB]; exact hole_self _ _
  have BL : B.get? L = none := by rw [← hB, hole_other _ (Ne.symm nLgL)]; exact hole_self _ _
  have BLo : B.get? Lo = none := by rw [← hB, hole_other _ (Ne.symm (nLo Lg nLgh)), hole_other _ (Ne.symm (nLo L nhL))]; exact hole_self _ _
  have K0 : Keeps (hole Lo h) B := fun b o e => by
    obtain ⟨n3, e⟩ := hole_some e
    exact Bg b o (fun q => by rw [q, nLgh] at e; cases e) (fun q => by rw [q, nhL] at e; cases e) n3 (S.fr.keep b o e)
  have FF : h₄.FunFrames B [envOf (D 14).name (D 14).scope L f cd, envO] :=
    ⟨by show (D 14).scope.kind ≠ .module; rw [fn14.cx.kind]; decide, ⟨L, oL, rfl, BL, hoL, fun vs q => by rw [hdL] at q; cases q⟩, hko, ⟨Lo, oo, hfo, BLo, S.fr.keep _ _ ho, hod⟩, trivial⟩
  have hfr' : (A.deeper (envOf (D 14).name (D 14).scope L f cd)).frames = some [envOf (D 14).name (D 14).scope L f cd, envO] := by
    show A.frames.map _ = _
    rw [hfr]; rfl
  refine w_cons ⟨wpAny_Try_except ?_⟩
  refine wpAny_mono (Q := fun _ _ => False) (E := fun x s₁ => ∃ h' t' e t tk, x = .ref e ∧ s₁ = ⟨h', g.push .finished, dr, t', os⟩ ∧ Fly B [envOf (D 14).name (D 14).scope L f cd, envO] e (.type "ValueError") (.ref t) (rawInt L) h' ∧ h'.TupAt t [.str "invalid grouping" tk] ∧ B.get? t = none ∧
      (∀ b o, b ≠ Lg → h₄.get? b = some o → (∀ vs, o.data ≠ .fields vs) → ∃ sl, h'.get? b = some { o with slots := sl })) ?_ (fun _ _ x => x.elim) ?_
  · refine wpAny_execs_cons (wpAny_For (w_ld fn14.cx S 1 ?_).out)
    refine (w_iter_gen (lget S 0 rfl) hog ?_).out
    refine codeAny_forLoop (fun n s => s = ⟨h₄, g.push (.fresh (.func (D 3).body (env3 Lg b3 cd3))), dr, t3, os⟩) ?_ 0 rfl
    rintro n s rfl
    refine (w_next_raise (P := fun en s₁ => ∃ h' t' e t tk, en = .ret (.error (.ref e)) ∧ s₁ = ⟨h', (g.push (.fresh (.func (D 3).body (env3 Lg b3 cd3)))).setIfInBounds g.size .running, dr, t', os⟩ ∧ Fly B [envOf (D 14).name (D 14).scope L f cd, envO] e (.type "ValueError") (.ref t) .none h' ∧ h'.TupAt t [.str "invalid grouping" tk] ∧ B.get? t = none ∧
      (∀ b o, b ≠ Lg → h₄.get? b = some o → (∀ vs, o.data ≠ .fields vs) → ∃ sl, h'.get? b = some { o with slots := sl })) hR' (Gbh.nolimit.keeps S.fr.keep) (isGen_of (lget S 0 rfl) hog) (gi := g.size) (by rw [Array.getElem?_push, if_pos rfl]) ?_ ?_).out
    · refine g_raise (us := us) (u0 := u0) hR'.hh hfr' (Gb.keeps K0) (ns_iff.mpr ⟨oF, lget S 1 rfl, hF⟩) ?_ hu (fun b o e => (Bs b o e).2.2.2) ?_ BLg FF ?_ fun h' t' e t tk R1 R2 R3 R4 => ⟨h', t', e, t, tk, rfl, rfl, R1, R2, R3, R4⟩
      · obtain ⟨o, e1, e2⟩ := hl
        exact ⟨o, S.fr.keep _ _ e1, e2⟩
      · obtain ⟨o, e1, e2⟩ := hl
        intro e; rw [e, nLgh] at e1; cases e1
      · intro b hb
        have hb : b ∈ [L, Lo] := by
          have e : [envOf (D 14).name (D 14).scope L f cd, envO].filterMap (·.frame) = [L, Lo] := by
            simp only [List.filterMap_cons, List.filterMap_nil, hfo]; rfl
          rw [← e]; exact hb
        rcases List.mem_cons.mp hb with rfl | hb
        · exact Ne.symm nLgL
        · rcases List.mem_cons.mp hb with rfl | hb
          · exact Ne.symm (nLo Lg nLgh)
          · cases hb
    · rintro en s₁ ⟨h₅, t5, e, te, tk, rfl, rfl, R1, R2, R3, R4⟩
      refine ⟨e, rfl, ?_, ?_, ?_⟩
      · obtain ⟨oe, _, _, _, _, he, hc, _⟩ := R1.2.2.2
        exact ⟨oe, he, hc.1⟩
      · obtain ⟨o, nm, qn, e1, e2⟩ := isGen_of (lget S 0 rfl) hog
        exact ⟨o, nm, qn, R1.1 _ _ (Bg _ _ naLg naL (nLo aG nah) e1), e2⟩
      · refine (w_note2 hfr' rfl R1 fun h₆ R6 u6 => ?_).out
        refine (w_back (L := L) rfl R6 fun h₇ R7 u7 => ?_).out
        have eg : (⟨h₇, ((g.push (.fresh (.func (D 3).body (env3 Lg b3 cd3)))).setIfInBounds g.size .running).setIfInBounds g.size .finished, dr, t5, os⟩ : Shared) = ⟨h₇, g.push .finished, dr, t5, os⟩ := by rw [push_set, push_set]
        exact ⟨h₇, t5, e, te, tk, rfl, eg, R7, R2.of_slots (u6.trans u7), R3, fun b o n1 e hd => by
          obtain ⟨sl, hs⟩ := R4 b o n1 e hd
          obtain ⟨sl', hs'⟩ := (u6.trans u7) b _ hs hd
          exact ⟨sl', hs'⟩⟩
  rintro x s ⟨h₅, t5, e, te, tk, rfl, rfl, R, R2, R3, R4⟩
  have mk : ∀ h', Fly B [envOf (D 14).name (D 14).scope L f cd, envO] e (.type "ValueError") (.ref te) .none h' → h₅.UpToSlots h' →
      ∃ slo oe ot vs nt, Led (hole Lo h) L (loc N14 [some (.ref l), some (.ref aG), none, none]) h' [(Lo, { oo with slots := slo }), (e, oe), (te, ot)] ∧ oe.cls = .type "ValueError" ∧ oe.data = .fields vs ∧ vs[0]? = some (.ref te) ∧
        ot.cls = .type "tuple" ∧ ot.data = .seq [Value.str "invalid grouping" tk].toArray nt := by
    intro h' R' u'
    obtain ⟨sl1, hs1⟩ := R4 Lo oo (Ne.symm (nLo Lg nLgh)) (S.fr.keep _ _ ho) hod
    obtain ⟨slo, hslo⟩ := u' Lo _ hs1 hod
    have hdd : ∀ vs, oL.data ≠ .fields vs := fun vs q => by rw [hdL] at q; cases q
    obtain ⟨sl2, hs2⟩ := R4 L oL (Ne.symm nLgL) hoL hdd
    obtain ⟨sl3, hs3⟩ := u' L _ hs2 hdd
    obtain ⟨ot, nt, et, ct, dt⟩ := R2.of_slots u'
    obtain ⟨oe, vs, _, _, _, ee, ce, de, _⟩ := R'.2.2.2
    have n0 : ∀ b, B.get? b = none → (hole Lo h).get? b = none := fun b hb => by
      cases q : (hole Lo h).get? b with
      | none => rfl
      | some o => have := K0 b o q; rw [hb] at this; cases this
    have neL : e ≠ L := fun q => by rw [q, hs3] at ee; cases ee; exact hdd _ de
    have ntL : te ≠ L := fun q => by rw [q, hs3] at et; cases et; rw [hdL] at dt; cases dt
    have neo : Lo ≠ e := fun q => by rw [← q, hslo] at ee; cases ee; exact hod _ de
    have net : e ≠ te := fun q => by rw [q, et] at ee; cases ee; rw [dt] at de; cases de
    have nto : Lo ≠ te := fun q => by obtain ⟨es, ep, e⟩ := hdict; rw [← q, hslo] at et; cases et; rw [e] at dt; cases dt
    refine ⟨slo, oe, ot, vs, nt, ⟨⟨⟨_, esL, epL, hs3, hdL, hL3⟩, fun b o e => R'.1 b o (K0 b o e), by rw [hole_size]; exact S.fr.above⟩, fun p hp => ?_, ?_⟩, ce.1, de, ce.2, ct, dt⟩
    · rcases List.mem_cons.mp hp with rfl | hp
      · exact ⟨hslo, Ne.symm (nLo L nhL), hole_self _ _⟩
      · rcases List.mem_cons.mp hp with rfl | hp
        · exact ⟨ee, neL, n0 _ R'.2.1⟩
        · rcases List.mem_cons.mp hp with rfl | hp
          · exact ⟨et, ntL, n0 _ R3⟩
          · cases hp
    · simp only [List.map_cons, List.map_nil, List.nodup_cons, List.mem_cons, List.not_mem_nil, or_false, not_or, not_false_eq_true, List.nodup_nil, and_true]
      exact ⟨⟨neo, nto⟩, net⟩
  refine (w_note3 (L := L) rfl R ?_).out
  refine (w_setFlight (fr := none) R fun h₆ R6 u6 => ?_).out
  obtain ⟨slo, oe, ot, vs, nt, S6, c1, c2, c3, c4, c5⟩ := mk h₆ R6 u6
  refine wpAny_handleBy_builtin_as (X := "ValueError") (T := "ValueError") (b := true) F.isExc_ValueError F.notTuple_ValueError F.self_ValueError ?_
  refine (w_bu fn14.cx S6 Gb bo_ValueError ⟨rfl, ⟨oe, lget S6 1 rfl, c1⟩, ?_⟩).out
  rw [if_pos rfl]
  refine (w_setFlight (fr := none) R6 fun h₇ R7 u7 => ?_).out
  obtain ⟨slo, oe, ot, vs, nt, S7, c1, c2, c3, c4, c5⟩ := mk h₇ R7 (u6.trans u7)
  refine (w_st fn14.cx S7 3 fun h₈ t8 S8 => ?_).out
  refine (w_cons (w_ret (w_cmp (w_callt fn14.cx S8 Gb bo_str (w_args (w_ld fn14.cx S8 3 (w_args0 ?_))))))).out
  refine ⟨P.str_of_exc_one F.excStr_ValueError ?_ ⟨oe, vs, lget S8 1 rfl, c1, c2, c3⟩ ⟨ot, nt, lget S8 2 rfl, c4, c5⟩ ?_⟩
  · have := hR'.un
    show (A.deeper (envOf (D 14).name (D 14).scope L f cd)).units + 2 < cLine
    omega
  refine w_str fun u9 t9 => w_seq ?_
  rw [beq_self_eq_true]
  refine wpAny_nameGoes (fn14.cx.loc "refusal" (by decide +kernel)).1 S8.fr.ns (by show ((D 14).scope.kind == .class || ((D 14).scope.kind == .module && L != mainGlobals)) = false; rw [fn14.cx.kind]; rfl) fun h₁₀ m' n10 sb => ?_
  refine q h₁₀ _ slo (fun b o n1 e => ?_) ?_
  · have e0 : (hole Lo h).get? b = some o := by rw [hole_other _ n1]; exact e
    exact sb.extBut b o (fun q => by have q : b = L := q; rw [q, nhL] at e; cases e) (S8.fr.keep b o e0)
  · exact sb.extBut Lo _ (Ne.symm (nLo L nhL)) (lget S8 0 rfl)
end
end Mine
namespace Mine
theorem lmany {h₀ h h' : Heap} {L : Addr} {m : Str → Option Value} {front front' rest nf : List (Addr × Obj)} (S : Led h₀ L m h (front ++ rest)) (ha : front'.map (·.1) = front.map (·.1))
    (hk : ∀ b o, b ∉ front.map (·.1) → h.get? b = some o → h'.get? b = some o) (hf : ∀ p ∈ front', h'.get? p.1 = some p.2) (hn : ∀ p ∈ nf, h.get? p.1 = none ∧ h'.get? p.1 = some p.2) (hnd : (nf.map (·.1)).Nodup) :
    Led h₀ L m h' (nf ++ front' ++ rest) := by
  obtain ⟨oL, a1, a2, hoL, a3⟩ := S.fr.ns
  have nf1 : ∀ b o, h₀.get? b = some o → b ∉ front.map (·.1) := fun b o e hm => by
    obtain ⟨p, hp, rfl⟩ := List.mem_map.mp hm
    have := (S.nw p (List.mem_append_left _ hp)).2.2
    rw [e] at this; cases this
  have nL : L ∉ front.map (·.1) := fun hm => by
    obtain ⟨p, hp, e⟩ := List.mem_map.mp hm
    exact (S.nw p (List.mem_append_left _ hp)).2.1 e
  have nd := S.nd
  rw [List.map_append] at nd
  have nd2 := List.nodup_append.mp nd
  refine ⟨⟨⟨oL, a1, a2, hk L oL nL hoL, a3⟩, fun b o e => hk b o (nf1 b o e) (S.fr.keep b o e), S.fr.above⟩, fun p hp => ?_, ?_⟩
  · rcases List.mem_append.mp hp with hp | hp
    · rcases List.mem_append.mp hp with hp | hp
      · obtain ⟨e1, e2⟩ := hn p hp
        refine ⟨e2, fun q => ?_, ?_⟩
        · have hoL : h.get? L = some oL := hoL
          rw [q, hoL] at e1; cases e1
        · cases q : h₀.get? p.1 with
          | none => rfl
          | some o => have := S.fr.keep _ _ q; rw [e1] at this; cases this
      · have : p.1 ∈ front.map (·.1) := ha ▸ List.mem_map_of_mem hp
        obtain ⟨r, hr, e⟩ := List.mem_map.mp this
        have z := S.nw r (List.mem_append_left _ hr)
        rw [e] at z
        exact ⟨hf p hp, z.2⟩
    · have z := S.nw p (List.mem_append_right _ hp)
      exact ⟨hk _ _ (fun hm => nd2.2.2 _ hm _ (List.mem_map_of_mem hp) rfl) z.1, z.2⟩
  · rw [List.append_assoc, List.map_append, List.map_append, ha]
    refine List.nodup_append.mpr ⟨hnd, nd, fun a ha b hb e => ?_⟩
    subst e
    obtain ⟨p, hp, rfl⟩ := List.mem_map.mp ha
    have e1 := (hn p hp).1
    rw [← List.map_append] at hb
    obtain ⟨r, hr, e⟩ := List.mem_map.mp hb
    have := (S.nw r hr).1
    rw [e, e1] at this; cases this
theorem intsAre_ivals : ∀ (li : List (Int × Tok)), IntsAre (ivals li) (li.map (·.1))
  | [] => .nil
  | p :: l => .cons p.1 p.2 (intsAre_ivals l)
theorem ivals_of_intsAre {vs : List Value} {ns : List Int} (h : IntsAre vs ns) : ∃ li, vs = ivals li ∧ li.map (·.1) = ns := by
  induction h with
  | nil => exact ⟨[], rfl, rfl⟩
  | cons n t _ ih => obtain ⟨li, e1, e2⟩ := ih; exact ⟨(n, t) :: li, by rw [e1]; rfl, by rw [← e2]; rfl⟩
theorem pick_ivals (li : List (Int × Tok)) (lo hi st : Option Int) : ∃ li', slicePick (ivals li).toArray lo hi st = (ivals li').toArray ∧ li'.length ≤ li.length := by
  obtain ⟨li', e1, _⟩ := ivals_of_intsAre ((intsAre_ivals li).pick lo hi st)
  refine ⟨li', by rw [← e1], ?_⟩
  have := slicePick_size_le (ivals li).toArray lo hi st
  have e2 : (slicePick (ivals li).toArray lo hi st).size = li'.length := by rw [← Array.length_toList, e1, ivals_len']
  rw [e2, List.size_toArray, ivals_len'] at this
  exact this
where ivals_len' (l : List (Int × Tok)) : (ivals l).length = l.length := by unfold ivals; rw [List.length_map]
/-- enumerate's iterator -/
def en (it : Addr) (i : Int) (old : Value) : Obj := { cls := .type "enumerate", dict := none, data := .fields #[.none, .bool false, .ref it, rawInt i, .none, old], slots := #[] }
def eo (it : Addr) (i : Int) (old : Value) (a : Addr) : Obj := { cls := .type "enumerate", dict := none, data := .fields #[rawInt a, .bool false, .ref it, rawInt i, .none, old], slots := #[] }
section
variable {prog : Program} {w : World} {A : Around} {h₀ h : Heap} {g : Array GenState} {dr : Drawn} {t : Nat} {os : OsState} {L l : Addr} {m : Str → Option Value}
  {news : List (Addr × Obj)} {E : Value → Shared → Prop} {Q : Value → Shared → Prop} {us : List Value} {n : Nat} {P : Option Value → Shared → Prop} {U : Unit → Shared → Prop} {e it : Addr} {i : Nat} {oI : Obj} {old x : Value}
theorem w_enum (S : Led h₀ L m h news) (hl : h.IsList l us.toArray) (q : ∀ e it oI h', Led h₀ L m h' ((e, en it 0 .none) :: (it, oI) :: news) → IsLI oI l 0 → Q (.ref e) ⟨h', g, dr, t, os⟩) :
    W prog w A (call (.type "enumerate") [.ref l]) Q E ⟨h, g, dr, t, os⟩ := by
  refine ⟨call_enumerate_list (s := ⟨h, g, dr, t, os⟩) hl fun h' h1 h2 h3 h4 => ?_⟩
  obtain ⟨oI, e1, e2⟩ := h2
  refine q (h.objs.size + 1) h.objs.size oI h' ?_ e2
  refine lmany (front := []) (front' := []) (rest := news) (nf := [(h.objs.size + 1, en h.objs.size 0 .none), (h.objs.size, oI)]) S rfl (fun b o _ e => h4 b o e) (fun p hp => nomatch hp) (fun p hp => ?_) ?_
  · rcases List.mem_cons.mp hp with rfl | hp
    · exact ⟨Heap.get?_none_of_le (Nat.le_succ _), h1⟩
    · rcases List.mem_cons.mp hp with rfl | hp
      · exact ⟨none_size h, e1⟩
      · cases hp
  · simp
theorem w_next_enum (S : Led h₀ L m h ((e, en it i old) :: (it, oI) :: news)) (ho : IsLI oI l i) (hl : h.IsList l us.toArray) (hx : us[i]? = some x)
    (q : ∀ T oI' u h' t', Led h₀ L m h' ((T, tup [.int i u, x]) :: (e, eo it ((i : Int) + 1) x T) :: (it, oI') :: news) → IsLI oI' l (i + 1) → P (some (.ref T)) ⟨h', g, dr, t', os⟩) :
    W prog w A (pyNext (.ref e)) P E ⟨h, g, dr, t, os⟩ := by
  have nd := S.nd
  simp only [List.map_cons, List.nodup_cons, List.mem_cons, not_or] at nd
  refine ⟨wpAny_pyNext_enum_item (s := ⟨h, g, dr, t, os⟩) (lget S 0 rfl) ⟨oI, lget S 1 rfl, ho⟩ hl (by rw [List.getElem?_toArray]; exact hx) nd.1.1 fun h' h1 h2 h3 h4 h5 => ?_⟩
  obtain ⟨oI', e1, e2⟩ := h2
  refine q h.objs.size oI' t h' _ ?_ e2
  refine lmany (front := [(e, en it i old), (it, oI)]) (front' := [(e, eo it ((i : Int) + 1) x h.objs.size), (it, oI')]) (rest := news) (nf := [(h.objs.size, tup [.int i t, x])]) S rfl (fun b o hb e => h5 b o (fun q => hb (by rw [q]; exact .head _)) (fun q => hb (by rw [q]; exact .tail _ (.head _))) e) (fun p hp => ?_) (fun p hp => ?_) (by simp)
  · rcases List.mem_cons.mp hp with rfl | hp
    · exact h1
    · rcases List.mem_cons.mp hp with rfl | hp
      · exact e1
      · cases hp
  · rcases List.mem_cons.mp hp with rfl | hp
    · exact ⟨none_size h, h3⟩
    · cases hp
theorem w_owned {T : Addr} {oT : Obj} {elts : List PySem.Expr} {x1} {pos : Pos} {j : Int} (S : Led h₀ L m h ((T, oT) :: (e, eo it j x T) :: news)) (q : ∀ h', Led h₀ L m h' ((T, oT) :: (e, en it j x) :: news) → U () ⟨h', g, dr, t, os⟩) :
    W prog w A (letOwnedTupleGo (.Tuple elts x1 pos) (.ref e) (.ref T)) U E ⟨h, g, dr, t, os⟩ :=
  ⟨wpAny_letOwnedTupleGo_enum (s := ⟨h, g, dr, t, os⟩) (lget S 1 rfl) fun h' h1 h2 => q h' (lset S 1 rfl h2 h1)⟩
theorem w_end_enum (S : Led h₀ L m h ((e, en it i old) :: (it, oI) :: news)) (hR : Rm A n) (ho : IsLI oI l i) (hl : h.IsList l us.toArray) (hx : us[i]? = none) (q : ∀ h', Led h₀ L m h' news → P none ⟨h', g, dr, t, os⟩) :
    W prog w A (pyNext (.ref e)) P E ⟨h, g, dr, t, os⟩ :=
  ⟨wpAny_pyNext_enum_end (s := ⟨h, g, dr, t, os⟩) hR.hh (lget S 0 rfl) ⟨oI, lget S 1 rfl, ho⟩ hl (by rw [List.getElem?_toArray]; exact hx) fun h' he => q h' (ldrop (lextI S 1 rfl he))⟩
theorem self_enum {j : Int} (e1 : h.get? e = some (en it j old)) (q : Q (.ref e) ⟨h, g, dr, t, os⟩) : W prog w A (pyIter (.ref e)) Q E ⟨h, g, dr, t, os⟩ := ⟨wpAny_pyIter_enum (s := ⟨h, g, dr, t, os⟩) e1 q⟩
theorem w_sum {li : List (Int × Tok)} (S : Led h₀ L m h news) (hR : Rm A n) (hl : h.IsList l (ivals li).toArray) (q : ∀ x h' u t', Led h₀ L m h' news → Q (.int x u) ⟨h', g, dr, t', os⟩) : W prog w A (call (.builtin "sum") [.ref l]) Q E ⟨h, g, dr, t, os⟩ := by
  have e : intItems li.toArray = (ivals li).toArray := by unfold intItems ivals; simp
  exact ⟨sum_intListG (s := ⟨h, g, dr, t, os⟩) (xs := li.toArray) hR.hh (by rw [e]; exact hl) fun h' tk t' hk => q _ h' t' tk (lkeeps S hk)⟩
theorem w_in_ints {a : Int} {ta : Tok} {c : Addr} {oc : Obj} {li : List (Int × Tok)} (hR : Rm A n) (ec : h.get? c = some oc) (hc : IsLs oc (ivals li)) (q : Q (.bool ((li.map (·.1)).contains a)) ⟨h, g, dr, t, os⟩) :
    W prog w A (compareOp .In (.int a ta) (.ref c)) Q E ⟨h, g, dr, t, os⟩ := by
  have ii := ints_reads (h := h) li
  have ei : (li.map fun p => PyData.int p.1) = (li.map (·.1)).map PyData.int := by rw [List.map_map]; rfl
  rw [ei] at ii
  refine ⟨SeqAt.in_list_reads (s := ⟨h, g, dr, t, os⟩) (reads_ls ec hc ii) (Reads.int a ta) (canLay_ints _) rfl ?_ ?_⟩
  · have := hR.un
    rw [depth_ints]
    simp only [PyData.depth]
    omega
  · have e : ((li.map (·.1)).map PyData.int).any (fun y => PyData.eqv y (.int a)) = (li.map (·.1)).contains a := by
      rw [List.any_map, List.contains_eq_any_beq]
      refine congrArg (fun p => (li.map (·.1)).any p) (funext fun i => ?_)
      show (i == a) = (a == i)
      exact BEq.comm
    rw [e]
    exact q
end
end Mine
namespace Mine
abbrev N15 : List Str := ["script", "place", "row", "common", "shared", "marks", "both"]
abbrev G15 : List Str := ["enumerate", "range", "_law_common", "_law_refused", "_law_marks", "len"]
theorem cx15 : Cx (D 15) N15 G15 := Cx.of (by decide +kernel)
theorem sc15 : (D 15).scope.isCoroutine = false ∧ (D 15).scope.isGenerator = false := by decide +kernel
abbrev env15 (L f : Addr) (cd : Value) : Env := envOfC (D 15).name (D 15).scope L f cd
def cel (v : Option Value) (o : Obj) : Prop := o.data = .cell v
theorem cells15 (n : Nat) : cellsFrom n (D 15).scope.names [] = [(("others" : Str), n + 3), (("second" : Str), n + 2), (("first" : Str), n + 1), (("drawn" : Str), n)] := by
  rfl
theorem ck15 : ∀ x ∈ (["others", "second", "first", "drawn"] : List Str), (D 15).scope.names.lookup x = some .cell ∧ (x == ("__debug__" : Str)) = false := by decide +kernel
section
variable {prog : Program} {w : World} {A : Around} {h₀ h : Heap} {g : Array GenState} {dr : Drawn} {t : Nat} {os : OsState} {L f : Addr} {cd : Value}
  {vs : List (Option Value)} {news : List (Addr × Obj)} {mg mb : Str → Option Value} {x : Str} {pos np : Pos} {E : Value → Shared → Prop} {Q : Value → Shared → Prop}
theorem v_ld {v : Value} (S : Led h₀ L (loc N15 vs) h news) (i : Nat) (k : Q v ⟨h, g, dr, t, os⟩) (hx : N15[i]? = some x := by rfl) (hv : vs[i]? = some (some v) := by rfl) :
    W prog w A (eval (.Name x pos) (env15 L f cd)) Q E ⟨h, g, dr, t, os⟩ :=
  ⟨wpAny_Name (wpAny_loadName_local (env := env15 L f cd) cx15.kind (cx15.loc x (List.mem_of_getElem? hx)).1 S.fr.ns (loc_at cx15.nd hx hv) k) (cx15.loc x (List.mem_of_getElem? hx)).2⟩
theorem v_st {P : Unit → Shared → Prop} {v : Value} {vs' : List (Option Value)} (S : Led h₀ L (loc N15 vs) h news) (i : Nat) (k : ∀ h' t', Led h₀ L (loc N15 vs') h' news → P () ⟨h', g, dr, t', os⟩)
    (hx : N15[i]? = some x := by rfl) (hl : vs.length = N15.length := by rfl) (hv : vs.set i (some v) = vs' := by (simp only [List.set_cons_zero, List.set_cons_succ]; rfl)) :
    W prog w A (storeName (env15 L f cd) x v) P E ⟨h, g, dr, t, os⟩ := by
  subst hv
  refine ⟨wpAny_storeName_local (env := env15 L f cd) (s := ⟨h, g, dr, t, os⟩) (cx15.loc x (List.mem_of_getElem? hx)).1 S.fr.ns (fun h' hn hs => k h' _ ?_) (by show ((D 15).scope.kind == .class || ((D 15).scope.kind == .module && L != mainGlobals)) = false; rw [cx15.kind]; rfl)⟩
  have hn : h'.Ns L (loc N15 (vs.set i (some v))) := loc_set cx15.nd hl hx ▸ hn
  exact ⟨S.fr.set hn hs, fun p hp => ⟨hs.extBut _ _ (S.nw p hp).2.1 (S.nw p hp).1, (S.nw p hp).2⟩, S.nd⟩
theorem v_cl {v : Value} {c : Addr} {o : Obj} (S : Led h₀ L (loc N15 vs) h news) (i : Nat) (ho : cel (some v) o) (k : Q v ⟨h, g, dr, t, os⟩) (hi : news[i]? = some (c, o) := by rfl) (hc : [(("others" : Str), L + 1 + 3), ("second", L + 1 + 2), ("first", L + 1 + 1), ("drawn", L + 1)].lookup x = some c := by rfl)
    (hx : x ∈ (["others", "second", "first", "drawn"] : List Str) := by decide +kernel) : W prog w A (eval (.Name x pos) (env15 L f cd)) Q E ⟨h, g, dr, t, os⟩ :=
  ⟨wpAny_Name (wpAny_loadName_cell (env := env15 L f cd) cx15.kind (ck15 x hx).1 (by show (cellsFrom (L + 1) (D 15).scope.names []).lookup x = some c; rw [cells15]; exact hc) ⟨o, lget S i hi, ho⟩ k) (ck15 x hx).2⟩
theorem v_cs {P : Unit → Shared → Prop} {v : Value} {v₀ : Option Value} {c : Addr} {o : Obj} (S : Led h₀ L (loc N15 vs) h news) (i : Nat) (ho : cel v₀ o) (k : ∀ h' o', Led h₀ L (loc N15 vs) h' (news.set i (c, o')) → cel (some v) o' → P () ⟨h', g, dr, t, os⟩) (hi : news[i]? = some (c, o) := by rfl)
    (hc : [(("others" : Str), L + 1 + 3), ("second", L + 1 + 2), ("first", L + 1 + 1), ("drawn", L + 1)].lookup x = some c := by rfl)
    (hx : x ∈ (["others", "second", "first", "drawn"] : List Str) := by decide +kernel) : W prog w A (storeName (env15 L f cd) x v) P E ⟨h, g, dr, t, os⟩ := by
  refine ⟨wpAny_storeName_cell (env := env15 L f cd) (s := ⟨h, g, dr, t, os⟩) cx15.kind (ck15 x hx).1 (by show (cellsFrom (L + 1) (D 15).scope.names []).lookup x = some c; rw [cells15]; exact hc) ⟨o, lget S i hi, ho⟩ fun h' hc' hs => ?_⟩
  obtain ⟨o', e1, e2⟩ := hc'
  exact k h' o' (lset S i hi hs e1) e2
theorem v_fn (S : Led h₀ L (loc N15 vs) h news) (Gb : Glb mg mb h₀) (i : Nat) (hi : i ∈ fnIdx) (hn : (D i).name = x) (hx : x ∈ G15) (k : ∀ b, IsFn (D i) h₀ b → Q (.ref b) ⟨h, g, dr, t, os⟩) :
    W prog w A (eval (.Name x pos) (env15 L f cd)) Q E ⟨h, g, dr, t, os⟩ := by
  obtain ⟨b, h1, h2⟩ := Gb.fn i hi
  exact ⟨Name_function_global (env := env15 L f cd) cx15.kind (cx15.glo x hx).1 (loadGlobal_global (env := env15 L f cd) (Gb.g.keeps S.fr.keep) (hn ▸ h1) (k b h2)) (cx15.glo x hx).2⟩
theorem v_bu {v : Value} (S : Led h₀ L (loc N15 vs) h news) (Gb : Glb mg mb h₀) (hb : x ∈ buNames) (hx : x ∈ G15) (hv : bootBuiltins x = some v) (k : Q v ⟨h, g, dr, t, os⟩) :
    W prog w A (eval (.Name x pos) (env15 L f cd)) Q E ⟨h, g, dr, t, os⟩ :=
  ⟨Name_function_global (env := env15 L f cd) cx15.kind (cx15.glo x hx).1 (loadGlobal_builtin (env := env15 L f cd) (Gb.g.keeps S.fr.keep) (Gb.bu x hb).1 (Gb.b.keeps S.fr.keep) ((Gb.bu x hb).2.trans hv) k) (cx15.glo x hx).2⟩
theorem v_call {e : Expr} {es : List Expr} (S : Led h₀ L (loc N15 vs) h news) (Gb : Glb mg mb h₀) (i : Nat)
    (k : ∀ b, W prog w A (spliced (backTo pos (starEach (e :: es) (env15 L f cd)))) (fun us s₁ => Keeps h₀ s₁.heap ∧ (IsFn (D i) s₁.heap b → Glb mg mb s₁.heap → W prog w A (call (.ref b) us) Q E s₁)) E ⟨h, g, dr, t, os⟩)
    (he : starEach (e :: es) (env15 L f cd) = (false, eval e (env15 L f cd)) :: starEach es (env15 L f cd) := by rfl)
    (hc : eval (.Call (.Name x np) (e :: es) [] pos) (env15 L f cd) = (do callWith pos (← eval (.Name x np) (env15 L f cd)) [] (backTo pos (starEach (e :: es) (env15 L f cd))) (backToKw pos (keywordEach [] (env15 L f cd)))) := by rfl)
    (hi : i ∈ fnIdx := by decide) (hn : (D i).name = x := by rfl) (hx : x ∈ G15 := by decide +kernel) :
    W prog w A (eval (.Call (.Name x np) (e :: es) [] pos) (env15 L f cd)) Q E ⟨h, g, dr, t, os⟩ := by
  refine ⟨Call_ (v_fn S Gb i hi hn hx fun b hb => ?_).out hc⟩
  obtain ⟨o, pm, cd', doc, h1, h2, h3⟩ := id hb
  exact callWith_def h2 (up (k b) fun us s₁ hk => ⟨hk.1 _ _ h1, (hk.2 (hb.keeps hk.1) (Gb.keeps hk.1)).out⟩) he
theorem v_callb {e : Expr} {es : List Expr} {id : String} (S : Led h₀ L (loc N15 vs) h news) (Gb : Glb mg mb h₀) (hv : bootBuiltins x = some (.builtin id))
    (k : W prog w A (spliced (backTo pos (starEach (e :: es) (env15 L f cd)))) (fun us s₁ => W prog w A (call (.builtin id) us) Q E s₁) E ⟨h, g, dr, t, os⟩)
    (he : starEach (e :: es) (env15 L f cd) = (false, eval e (env15 L f cd)) :: starEach es (env15 L f cd) := by rfl)
    (hc : eval (.Call (.Name x np) (e :: es) [] pos) (env15 L f cd) = (do callWith pos (← eval (.Name x np) (env15 L f cd)) [] (backTo pos (starEach (e :: es) (env15 L f cd))) (backToKw pos (keywordEach [] (env15 L f cd)))) := by rfl)
    (hp : (backTo pos (starEach es (env15 L f cd))).any (·.1) = false := by rfl)
    (hb : x ∈ buNames := by decide +kernel) (hx : x ∈ G15 := by decide +kernel) :
    W prog w A (eval (.Call (.Name x np) (e :: es) [] pos) (env15 L f cd)) Q E ⟨h, g, dr, t, os⟩ :=
  ⟨Call_ (v_bu S Gb hb hx hv (PyProof.Rows.callWith_builtin1 (up k fun _ _ q => q.out) he hp)).out hc⟩
theorem v_callt {e : Expr} {es : List Expr} {T : String} (S : Led h₀ L (loc N15 vs) h news) (Gb : Glb mg mb h₀) (hv : bootBuiltins x = some (.type T))
    (k : W prog w A (spliced (backTo pos (starEach (e :: es) (env15 L f cd)))) (fun us s₁ => W prog w A (call (.type T) us) Q E s₁) E ⟨h, g, dr, t, os⟩)
    (he : starEach (e :: es) (env15 L f cd) = (false, eval e (env15 L f cd)) :: starEach es (env15 L f cd) := by rfl)
    (hc : eval (.Call (.Name x np) (e :: es) [] pos) (env15 L f cd) = (do callWith pos (← eval (.Name x np) (env15 L f cd)) [] (backTo pos (starEach (e :: es) (env15 L f cd))) (backToKw pos (keywordEach [] (env15 L f cd)))) := by rfl)
    (hp : (backTo pos (starEach es (env15 L f cd))).any (·.1) = false := by rfl)
    (hb : x ∈ buNames := by decide +kernel) (hx : x ∈ G15 := by decide +kernel) :
    W prog w A (eval (.Call (.Name x np) (e :: es) [] pos) (env15 L f cd)) Q E ⟨h, g, dr, t, os⟩ :=
  ⟨Call_ (v_bu S Gb hb hx hv (PyProof.Rows.callWith_type1 (up k fun _ _ q => q.out) he hp)).out hc⟩
/-- a cell of the law's, read within a comprehension -/
theorem w_ccl {scope : Scope} {cl : List (Str × Addr)} {C : Addr} {v : Value} {c : Addr} {o : Obj} {m : Str → Option Value} (S : Led h₀ L m h news) (i : Nat) (ho : cel (some v) o) (k : Q v ⟨h, g, dr, t, os⟩) (hi : news[i]? = some (c, o) := by rfl) (hc : cl.lookup x = some c := by rfl)
    (hk : scope.kind = .function := by rfl) (hx : (relabel scope (env15 L f cd)).names.lookup x = some .cell := by rfl) (hd : (x == ("__debug__" : Str)) = false := by decide +kernel) :
    W prog w A (eval (.Name x pos) (compEnvC scope cl C (env15 L f cd))) Q E ⟨h, g, dr, t, os⟩ :=
  ⟨wpAny_Name (wpAny_loadName_cell (env := compEnvC scope cl C (env15 L f cd)) hk hx hc ⟨o, lget S i hi, ho⟩ k) hd⟩
theorem w_cbu {scope : Scope} {cl : List (Str × Addr)} {C : Addr} {v : Value} {m : Str → Option Value} (S : Led h₀ L m h news) (Gb : Glb mg mb h₀) (hv : bootBuiltins x = some v) (k : Q v ⟨h, g, dr, t, os⟩) (hb : x ∈ buNames := by decide +kernel)
    (hk : scope.kind = .function := by rfl) (hx : (relabel scope (env15 L f cd)).names.lookup x = some .globalImplicit := by rfl) (hd : (x == ("__debug__" : Str)) = false := by decide +kernel) :
    W prog w A (eval (.Name x pos) (compEnvC scope cl C (env15 L f cd))) Q E ⟨h, g, dr, t, os⟩ :=
  ⟨Name_function_global (env := compEnvC scope cl C (env15 L f cd)) hk hx (loadGlobal_builtin (env := compEnvC scope cl C (env15 L f cd)) (Gb.g.keeps S.fr.keep) (Gb.bu x hb).1 (Gb.b.keeps S.fr.keep) ((Gb.bu x hb).2.trans hv) k) hd⟩
end
/-- a comprehension's loop, any end -/
structure CU (prog : Program) (w : World) (A : Around) (env : Env) (e : PySem.Expr) (scope : Scope) (cl : List (Str × Addr)) (it : Value) (D C : Addr) (P : Shared → Prop) (s : Shared) : Prop where
  out : codeAny (model prog w) A (.compLoop e 0 it (.ref D) (compEnvC scope cl C env)) (fun r s' => match r with | .ok _ => P s' | .error _ => False) s
structure CV (prog : Program) (w : World) (A : Around) (env : Env) (y : Str) (py : Pos) (e : PySem.Expr) (scope : Scope) (cl : List (Str × Addr)) (it : Value) (Q : Shared → Prop) (s : Shared) : Prop where
  out : wpAny (model prog w) A (newList []) (fun acc s₃ => wpAny (model prog w) A (newFunctionEnv scope env.globals cl [] env.qual none .none (some env)) (fun cenv s₄ =>
    codeAny (model prog w) A (.compStart e 0 it acc { cenv with scope := relabel scope env }) (compPost (model prog w) A NoE (some (assign (.Name y py) env)) (fun _ s' => Q s') acc cenv.locals) s₄) NoE s₃) NoE s
section
variable {prog : Program} {w : World} {A : Around} {env : Env} {elt target iter : PySem.Expr} {ifs : List PySem.Expr} {scope : Scope} {cl : List (Str × Addr)} {pos spos py : Pos} {y : Str} {R : Flow → Shared → Prop} {Q : Shared → Prop} {s : Shared} {it : Value}
theorem w_assignU (h : W prog w A (eval iter env) (fun x s₁ => W prog w A (pyIter x) (fun it s₂ => CV prog w A env y py (.ListComp elt [⟨target, iter, ifs, 0⟩] scope pos) scope cl it (R .next) s₂) NoE s₁) NoE s)
    (hclos : closureFor scope env = pure cl) (hsw : swapsWith (.ListComp elt [⟨target, iter, ifs, 0⟩] scope pos) (some (.Name y py)) spos.line env = pure true := by rfl) (hkind : scope.kind = .function := by rfl) (hnames : ∀ x ∈ scope.names, x.2 = .local → scope.names.lookup x.1 = some .local := by decide +kernel)
    (hs : ∀ x, foldedSetIterable iter env x = pure x := by intro _; rfl) :
    W prog w A (exec (.Assign [.Name y py] (.ListComp elt [⟨target, iter, ifs, 0⟩] scope pos) spos) env) R NoE s := by
  refine ⟨?_⟩
  rw [exec_Assign_Name_used _ _ _ _ hsw]
  refine wpAny_bind (wpAny_standAt (wpAny_bind ?_))
  show wpAny _ A (do let _ ← comprehension (.ListComp elt [⟨target, iter, ifs, 0⟩] scope pos) scope env _ (newList []) false (eval iter env) (some (assign (.Name y py) env))) _ _ s
  exact wpAny_bind (wpAny_mono (wpAny_comprehension_free (use := some (assign (.Name y py) env)) (Q := fun _ s' => R .next s') rfl hs hclos hkind hnames
    (up h fun x s₁ h₁ => up h₁ fun it s₂ h₂ => h₂.out)) (fun _ s' hq => wpAny_pure (wpAny_pure hq)) fun _ _ e => e)
variable {h₀ h : Heap} {g : Array GenState} {dr : Drawn} {t : Nat} {os : OsState} {L : Addr} {m : Str → Option Value} {news : List (Addr × Obj)}
theorem cv_go (S : Led h₀ L m h news) (hself : ∀ (D C : Addr) (oC : Obj) (h' : Heap) (P : Value → Shared → Prop), Led h₀ L m h' ((C, oC) :: (D, lst [] 0) :: news) → P it ⟨h', g, dr, t, os⟩ → W prog w A (pyIter it) P NoE ⟨h', g, dr, t, os⟩)
    (k : ∀ D C oC h', Led h₀ L m h' ((C, oC) :: (D, lst [] 0) :: news) → IsNs oC (fun _ => none) → CU prog w A env (.ListComp elt [⟨target, iter, ifs, 0⟩] scope pos) scope cl it D C (fun s' => W prog w A (storeName env y (.ref D)) (fun _ s'' => ∃ m, s''.heap.Ns C m ∧ ∀ h', Heap.SameBut C s''.heap h' → Q { s'' with heap := h' }) NoE s') ⟨h', g, dr, t, os⟩)
    (hcell : ∀ x ∈ scope.names, x.2 ≠ .cell := by decide +kernel) (hkind : scope.kind = .function := by rfl) :
    CV prog w A env y py (.ListComp elt [⟨target, iter, ifs, 0⟩] scope pos) scope cl it Q ⟨h, g, dr, t, os⟩ := by
  refine ⟨(w_newlist S (Nat.zero_le _) fun D h₁ S₁ => ⟨?_⟩ : W prog w A (newList []) (fun acc s₃ => W prog w A (newFunctionEnv scope env.globals cl [] env.qual none .none (some env)) (fun cenv s₄ =>
    codeAny (model prog w) A (.compStart (.ListComp elt [⟨target, iter, ifs, 0⟩] scope pos) 0 it acc { cenv with scope := relabel scope env }) (compPost (model prog w) A NoE (some (assign (.Name y py) env)) (fun _ s' => Q s') acc cenv.locals) s₄) NoE s₃) NoE _) |>.post (fun _ _ x => x.out) |>.out⟩
  refine wpAny_newFunctionEnv hcell (by intro y hy; simp at hy) (fun h₂ hns hsb => ?_) hkind
  obtain ⟨oC, e1, e2⟩ := ns_iff.mp hns
  have S₂ : Led h₀ L m h₂ ((h₁.objs.size, oC) :: (D, lst [] 0) :: news) := by
    have := lset (lnew S₁ { cls := .type (if (some env).isSome then "dict" else "frame"), data := .dict #[] } rfl) 0 rfl hsb e1
    exact this
  have c := (k D h₁.objs.size oC h₂ S₂ e2).out
  have c' : codeAny (model prog w) A (.compLoop (.ListComp elt [⟨target, iter, ifs, 0⟩] scope pos) 0 it (.ref D) (compEnvC scope cl h₁.objs.size env)) (compPost (model prog w) A NoE (some (assign (.Name y py) env)) (fun _ s' => Q s') (.ref D) h₁.objs.size) ⟨h₂, g, dr, t, os⟩ := by
    refine codeAny_mono c fun r s' hr => ?_
    cases r with
    | ok f => exact wpAny_assign_Name (W.out hr)
    | error e => exact hr.elim
  exact codeAny_compStart_list c' ((hself D h₁.objs.size oC h₂ (fun it' s' => codeAny (model prog w) A (.compLoop (.ListComp elt [⟨target, iter, ifs, 0⟩] scope pos) 0 it' (.ref D) (compEnvC scope cl h₁.objs.size env)) (compPost (model prog w) A NoE (some (assign (.Name y py) env)) (fun _ s' => Q s') (.ref D) h₁.objs.size) s') S₂ c').mono (fun _ _ x => x) fun _ _ x => x.elim).out
theorem cu_loop {D C : Addr} {K : Shared → Prop} (I : Nat → Shared → Prop)
    (turn : ∀ n s, I n s → W prog w A (pyNext it) (Tn K fun v s₁ => W prog w A (assign target (compEnvC scope cl C env) v) (fun _ s₂ =>
      W prog w A (forIn ifs true fun c r => if r = true then do let ok ← isTrue c (compEnvC scope cl C env) (eval c (compEnvC scope cl C env)); pure (ForInStep.yield ok) else pure (ForInStep.yield r)) (fun ok s₃ =>
        if ok = true then W prog w A (eval elt (compEnvC scope cl C env)) (fun x s₄ => W prog w A (call (.builtin "list.append") [.ref D, x]) (fun _ s₅ => ∃ m, m < n ∧ I m s₅) NoE s₄) NoE s₃ else ∃ m, m < n ∧ I m s₃) NoE s₂) NoE s₁) NoE s)
    (n : Nat) (h : I n s) (ht : ∀ v, letOwnedTupleGo target it v = pure () := by intro _; rfl) :
    CU prog w A env (.ListComp elt [⟨target, iter, ifs, 0⟩] scope pos) scope cl it D C K s := by
  refine ⟨codeAny_compLoop_tests I (fun n s hI => ?_) n h ht⟩
  refine wpAny_mono (turn n s hI).out (fun r s₁ h₁ => ?_) fun _ _ x => x.elim
  cases r with
  | none => exact h₁
  | some v =>
    refine wpAny_mono (W.out h₁) (fun _ s₂ h₂ => ?_) fun _ _ x => x.elim
    refine wpAny_mono h₂.out (fun ok s₃ h₃ => ?_) fun _ _ x => x.elim
    cases ok with
    | false => exact h₃
    | true =>
      refine wpAny_mono (W.out h₃) (fun x s₄ h₄ => ?_) fun _ _ x => x.elim
      exact wpAny_mono h₄.out (fun _ _ x => x) fun _ _ x => x.elim
theorem cu_pair {elts : List PySem.Expr} {x1} {tp : Pos} {D C : Addr} {K : Shared → Prop} (I : Nat → Shared → Prop)
    (turn : ∀ n s, I n s → W prog w A (pyNext it) (Tn K fun v s₁ => W prog w A (letOwnedTupleGo (.Tuple elts x1 tp) it v) (fun _ s₁' => W prog w A (assign (.Tuple elts x1 tp) (compEnvC scope cl C env) v) (fun _ s₂ =>
      W prog w A (eval elt (compEnvC scope cl C env)) (fun x s₄ => W prog w A (call (.builtin "list.append") [.ref D, x]) (fun _ s₅ => ∃ m, m < n ∧ I m s₅) NoE s₄) NoE s₂) NoE s₁') NoE s₁) NoE s)
    (n : Nat) (h : I n s) : CU prog w A env (.ListComp elt [⟨.Tuple elts x1 tp, iter, [], 0⟩] scope pos) scope cl it D C K s := by
  refine ⟨LCp.codeAny_compLoop_pair I (fun n s hI => ?_) n h⟩
  refine wpAny_mono (turn n s hI).out (fun r s₁ h₁ => ?_) fun _ _ x => x.elim
  cases r with
  | none => exact h₁
  | some v =>
    refine wpAny_mono (W.out h₁) (fun _ s₁' h₁' => ?_) fun _ _ x => x.elim
    refine wpAny_mono h₁'.out (fun _ s₂ h₂ => ?_) fun _ _ x => x.elim
    refine wpAny_mono h₂.out (fun x s₄ h₄ => ?_) fun _ _ x => x.elim
    exact wpAny_mono h₄.out (fun _ _ x => x) fun _ _ x => x.elim
end
end Mine
namespace Mine
def b15 (i : Nat) : Stmt := (D 15).body[i]?.getD (.Pass ⟨0, 0, 0, 0⟩)
theorem ivals_snoc (l : List (Int × Tok)) (x : Int) (u : Tok) : ivals (l ++ [(x, u)]) = ivals l ++ [Value.int x u] := by unfold ivals; rw [List.map_append]; rfl
section
variable {prog : Program} {w : World} {A : Around} {h₀ h : Heap} {g : Array GenState} {dr : Drawn} {t : Nat} {os : OsState} {L f l : Addr} {cd : Value} {mg mb : Str → Option Value} {o1 o2 o3 o4 : Obj} {n : Nat}
theorem l_drawn {li : List (Int × Tok)} (S : Led h₀ L (loc N15 [some (.ref l), none, none, none, none, none, none]) h [(L + 1 + 3, o4), (L + 1 + 2, o3), (L + 1 + 1, o2), (L + 1, o1)]) (c1 : cel none o1) (hR : Rm A n) (hl : h₀.IsList l (ivals li).toArray) (hlen : li.length ≤ 63) :
    W prog w A (exec (b15 0) (env15 L f cd)) (fun fl s => fl = .next ∧ ∃ h' t' b ob lb o1', s = ⟨h', g, dr, t', os⟩ ∧ IsLs ob (ivals lb) ∧ lb.length ≤ 63 ∧ cel (some (.ref b)) o1' ∧
      Led h₀ L (loc N15 [some (.ref l), none, none, none, none, none, none]) h' [(b, ob), (L + 1 + 3, o4), (L + 1 + 2, o3), (L + 1 + 1, o2), (L + 1, o1')]) NoE ⟨h, g, dr, t, os⟩ := by
  have hl' : h.IsList l (ivals li).toArray := by obtain ⟨o, e1, e2⟩ := hl; exact ⟨o, S.fr.keep _ _ e1, e2⟩
  refine w_assign (w_comp (cl := []) (w_item (v_ld S 0 (w_slice (w_p0 (w_p1 (w_int fun u1 t1 => w_p0 ?_)))))) rfl)
  have S := lkeeps S (keeps_push h { cls := .type "slice", data := .fields #[.none, .int 60 u1, .none] })
  obtain ⟨li1, e1, z1⟩ := pick_ivals li none (some 60) none
  refine w_lslice S (hl'.push _) (Heap.IsSliceOf.new ..) .none (.int 60 u1) .none (by decide) (vs' := ivals li1) e1 (small (by rw [ivals_len]; omega)) fun bS h₂ S => ?_
  refine w_iter_list S (isList_of (lget S 0 rfl)) fun c o h₃ S ho _ => ?_
  refine cj_go S (fun D C oC h' P S' hP => self_list (lget S' 2 rfl) ho hP) fun D C oC h₄ S hC => ?_
  refine ck_loop (fun n s => ∃ i h' t' oC oD o mc lD, s = ⟨h', g, dr, t', os⟩ ∧ i + n = li1.length + 1 ∧ i ≤ li1.length ∧ IsNs oC mc ∧ IsLs oD (ivals lD) ∧ lD.length = i ∧ IsLI o bS i ∧
      Led h₀ L (loc N15 [some (.ref l), none, none, none, none, none, none]) h' [(C, oC), (D, oD), (c, o), (bS, lst (ivals li1) 0), (L + 1 + 3, o4), (L + 1 + 2, o3), (L + 1 + 1, o2), (L + 1, o1)]) ?_ (li1.length + 1)
    ⟨0, h₄, t1, oC, _, o, _, [], rfl, by omega, by omega, hC, isLs_lst _ 0, rfl, ho, S⟩
  rintro n s ⟨i, h', t', oC, oD, o, mc, lD, rfl, hin, hi, hC, hoD, hlD, ho, S⟩
  by_cases he : i = li1.length
  · refine w_end_listI S hR 2 rfl ho (isList_of (lget S 3 rfl)) (by rw [List.getElem?_eq_none_iff, ivals_len]; omega) fun h₅ S => ?_
    have S : Led h₀ L _ h₅ [(C, oC), (D, oD), (bS, lst (ivals li1) 0), (L + 1 + 3, o4), (L + 1 + 2, o3), (L + 1 + 1, o2), (L + 1, o1)] := S
    refine ck_end S hC fun h₆ S => ?_
    refine v_cs S 5 c1 fun h₇ o1' S c1' => ?_
    exact ⟨rfl, h₇, _, D, oD, lD, o1', rfl, hoD, by omega, c1', lsub S (List.Sublist.cons_cons _ (List.Sublist.cons _ (List.Sublist.refl _)))⟩
  · have hlt : i < li1.length := by omega
    refine w_next_listI S 2 rfl ho (isList_of (lget S 3 rfl)) (v := .int (li1[i]).1 (li1[i]).2) (by unfold ivals; rw [List.getElem?_map, List.getElem?_eq_getElem hlt]; rfl) fun h₅ o' S ho => ?_
    have S : Led h₀ L _ h₅ [(C, oC), (D, oD), (c, o'), (bS, lst (ivals li1) 0), (L + 1 + 3, o4), (L + 1 + 2, o3), (L + 1 + 1, o2), (L + 1, o1)] := S
    refine w_asg (w_cst S 0 rfl hC fun h₆ oC' t9 S hC => ?_)
    have S : Led h₀ L _ h₆ [(C, oC'), (D, oD), (c, o'), (bS, lst (ivals li1) 0), (L + 1 + 3, o4), (L + 1 + 2, o3), (L + 1 + 1, o2), (L + 1, o1)] := S
    refine w_if0 ?_
    rw [if_pos rfl]
    refine w_binop (w_cld S 0 rfl hC (if_pos rfl) (w_int fun u2 t2 => w_mod (by decide) fun u3 t3 => ?_))
    refine w_appendb S 1 rfl hoD (small (by rw [ivals_len]; omega)) fun h₇ oD' S hoD => ?_
    rw [← ivals_snoc] at hoD
    exact ⟨n - 1, by omega, i + 1, h₇, t3, oC', oD', o', _, _, rfl, by omega, by omega, hC, hoD, by rw [List.length_append, hlD]; rfl, ho, S⟩
theorem w_ccallb {scope : Scope} {cl : List (Str × Addr)} {C : Addr} {m : Str → Option Value} {news : List (Addr × Obj)} {e : Expr} {es : List Expr} {id : String} {x : Str} {pos np : Pos} {Q : Value → Shared → Prop} {E : Value → Shared → Prop} (S : Led h₀ L m h news) (Gb : Glb mg mb h₀) (hv : bootBuiltins x = some (.builtin id))
    (k : W prog w A (spliced (backTo pos (starEach (e :: es) (compEnvC scope cl C (env15 L f cd))))) (fun us s₁ => W prog w A (call (.builtin id) us) Q E s₁) E ⟨h, g, dr, t, os⟩)
    (he : starEach (e :: es) (compEnvC scope cl C (env15 L f cd)) = (false, eval e (compEnvC scope cl C (env15 L f cd))) :: starEach es (compEnvC scope cl C (env15 L f cd)) := by rfl)
    (hc : eval (.Call (.Name x np) (e :: es) [] pos) (compEnvC scope cl C (env15 L f cd)) = (do callWith pos (← eval (.Name x np) (compEnvC scope cl C (env15 L f cd))) [] (backTo pos (starEach (e :: es) (compEnvC scope cl C (env15 L f cd)))) (backToKw pos (keywordEach [] (compEnvC scope cl C (env15 L f cd))))) := by rfl)
    (hp : (backTo pos (starEach es (compEnvC scope cl C (env15 L f cd)))).any (·.1) = false := by rfl) (hb : x ∈ buNames := by decide +kernel)
    (hk : scope.kind = .function := by rfl) (hx : (relabel scope (env15 L f cd)).names.lookup x = some .globalImplicit := by rfl) (hd : (x == ("__debug__" : Str)) = false := by decide +kernel) :
    W prog w A (eval (.Call (.Name x np) (e :: es) [] pos) (compEnvC scope cl C (env15 L f cd))) Q E ⟨h, g, dr, t, os⟩ :=
  ⟨Call_ (w_cbu S Gb hv (PyProof.Rows.callWith_builtin1 (up k fun _ _ q => q.out) he hp) hb hk hx hd).out hc⟩
theorem perm4 {α : Type} (a b c d : α) (r : List α) : (c :: d :: a :: b :: r).Perm (a :: b :: c :: d :: r) := (List.perm_append_comm (l₁ := [c, d]) (l₂ := [a, b])).append_right r
def InR (l : List (Int × Tok)) : Prop := ∀ p ∈ l, 0 ≤ p.1 ∧ p.1 ≤ 16
theorem l_row {b : Addr} {ob : Obj} {lb : List (Int × Tok)} (Gb : Glb mg mb h₀) (S : Led h₀ L (loc N15 [some (.ref l), none, none, none, none, none, none]) h [(b, ob), (L + 1 + 3, o4), (L + 1 + 2, o3), (L + 1 + 1, o2), (L + 1, o1)]) (hob : IsLs ob (ivals lb)) (hlb : lb.length ≤ 63) (c1 : cel (some (.ref b)) o1) (hR : Rm A n) :
    W prog w A (exec (b15 1) (env15 L f cd)) (fun fl s => fl = .next ∧ ∃ h' t' r oR lr, s = ⟨h', g, dr, t', os⟩ ∧ IsLs oR (ivals lr) ∧ lr.length = 4 ∧ InR lr ∧
      Led h₀ L (loc N15 [some (.ref l), none, some (.ref r), none, none, none, none]) h' [(r, oR), (L + 1 + 3, o4), (L + 1 + 2, o3), (L + 1 + 1, o2), (L + 1, o1)]) NoE ⟨h, g, dr, t, os⟩ := by
  refine w_assignU (cl := [(("drawn" : Str), L + 1)]) ?_ rfl
  refine v_callt S Gb bo_enumerate (w_args (w_list (w_args (w_int fun u1 t1 => w_args (w_int fun u2 t2 => w_args (w_int fun u3 t3 => w_args (w_int fun u4 t4 => w_args0 ?_)))))))
  refine w_newlist S (small (Nat.le_of_ble_eq_true rfl)) fun E4 h₂ S => w_args0 ?_
  refine w_enum S (isList_of (lget S 0 rfl)) fun e it oI h₃ S ho => ?_
  refine self_enum (lget S 0 rfl) ?_
  refine cv_go S (fun D C oC h' P S' hP => self_enum (lget S' 2 rfl) hP) fun D C oC h₄ S hC => ?_
  have S := lperm S (perm4 (C, oC) (D, lst [] 0) (e, en it 0 .none) (it, oI) _)
  refine cu_pair (fun n s => ∃ i h' t' oC oD oI mc lD old, s = ⟨h', g, dr, t', os⟩ ∧ i + n = 5 ∧ i ≤ 4 ∧ IsNs oC mc ∧ IsLs oD (ivals lD) ∧ lD.length = i ∧ InR lD ∧ IsLI oI E4 i ∧
      Led h₀ L (loc N15 [some (.ref l), none, none, none, none, none, none]) h' [(e, en it (i : Nat) old), (it, oI), (C, oC), (D, oD), (E4, lst [.int 6 u1, .int 16 u2, .int 9 u3, .int 0 u4] 0), (b, ob), (L + 1 + 3, o4), (L + 1 + 2, o3), (L + 1 + 1, o2), (L + 1, o1)]) ?_ 5
    ⟨0, h₄, t4, oC, _, oI, _, [], _, rfl, by omega, by omega, hC, isLs_lst _ 0, rfl, (fun p hp => nomatch hp), ho, S⟩
  rintro n s ⟨i, h', t', oC, oD, oI, mc, lD, old, rfl, hin, hi, hC, hoD, hlD, hrD, ho, S⟩
  by_cases he : i = 4
  · refine w_end_enum S hR ho (isList_of (lget S 4 rfl)) (by rw [he]; rfl) fun h₅ S => ?_
    refine v_st S 2 fun h₆ t7 S => ?_
    refine ⟨mc, ns_iff.mpr ⟨oC, lget S 0 rfl, hC⟩, fun h₇ hs => ?_⟩
    have S := lext S hs.extBut
    exact ⟨rfl, h₇, t7, D, oD, lD, rfl, hoD, by omega, hrD, lsub S (List.Sublist.cons_cons _ (List.Sublist.cons _ (List.Sublist.cons _ (List.Sublist.refl _))))⟩
  · obtain ⟨st, us, hx⟩ : ∃ st us, [Value.int 6 u1, .int 16 u2, .int 9 u3, .int 0 u4][i]? = some (Value.int st us) := by
      obtain rfl | rfl | rfl | rfl : i = 0 ∨ i = 1 ∨ i = 2 ∨ i = 3 := by omega
      · exact ⟨_, _, rfl⟩
      · exact ⟨_, _, rfl⟩
      · exact ⟨_, _, rfl⟩
      · exact ⟨_, _, rfl⟩
    refine w_next_enum S ho (isList_of (lget S 4 rfl)) hx fun T oI' u5 h₅ t5 S ho => ?_
    refine w_owned S fun h₆ S => ?_
    refine w_unpackT S hR (isTup_of (lget S 0 rfl)) fun h₇ S => w_asg ?_
    refine w_cst S 3 rfl hC fun h₈ oC' t6 S hC => w_asg ?_
    have S : Led h₀ L _ h₈ [(T, tup [.int i u5, .int st us]), (e, en it ((i : Int) + 1) (.int st us)), (it, oI'), (C, oC'), (D, oD), (E4, lst [.int 6 u1, .int 16 u2, .int 9 u3, .int 0 u4] 0), (b, ob), (L + 1 + 3, o4), (L + 1 + 2, o3), (L + 1 + 1, o2), (L + 1, o1)] := S
    refine w_cst S 3 rfl hC fun h₉ oC'' t7 S hC => ?_
    have S : Led h₀ L _ h₉ [(e, en it ((i : Int) + 1) (.int st us)), (it, oI'), (C, oC''), (D, oD), (E4, lst [.int 6 u1, .int 16 u2, .int 9 u3, .int 0 u4] 0), (b, ob), (L + 1 + 3, o4), (L + 1 + 2, o3), (L + 1 + 1, o2), (L + 1, o1)] := ldrop S
    refine w_binop (w_binop (w_cld S 2 rfl hC (if_pos rfl) ?_))
    refine w_ccallb S Gb bo_sum (w_args (w_item (w_ccl S 9 c1 (w_slice (w_p1 (w_cld S 2 rfl hC (v := .int i u5) ?_ (w_p0 (w_p1 (w_int fun u6 t8 => ?_)))))))))
    · rw [if_neg (by decide +kernel), if_pos rfl]
    have S := lkeeps S (keeps_push h₉ { cls := .type "slice", data := .fields #[.int i u5, .none, .int 4 u6] })
    obtain ⟨li1, e1, z1⟩ := pick_ivals lb (some (i : Int)) none (some 4)
    refine w_lslice S (isList_ls (lget S 5 rfl) hob) (Heap.IsSliceOf.new ..) (.int i u5) .none (.int 4 u6) (by decide) (vs' := ivals li1) e1 (small (by rw [ivals_len]; omega)) fun bS h₁₀ S => w_args0 ?_
    refine w_sum S hR (isList_of (lget S 0 rfl)) fun x h₁₁ u7 t9 S => ?_
    have S := ldrop S
    refine w_add fun u8 t10 => w_int fun u9 t11 => w_mod (by decide) fun u10 t12 => ?_
    refine w_appendb S 3 rfl hoD (small (by rw [ivals_len]; omega)) fun h₁₂ oD' S hoD => ?_
    rw [← ivals_snoc] at hoD
    refine ⟨n - 1, by omega, i + 1, h₁₂, t12, oC'', oD', oI', _, _, _, rfl, by omega, by omega, hC, hoD, by rw [List.length_append, hlD]; rfl, fun p hp => ?_, ho, S⟩
    rcases List.mem_append.mp hp with hp | hp
    · exact hrD p hp
    · rw [List.mem_singleton] at hp
      subst hp
      have m0 := Int.fmod_nonneg_of_pos (st + x) (show (0 : Int) < 17 by omega)
      have m1 := Int.fmod_lt_of_pos (st + x) (show (0 : Int) < 17 by omega)
      exact ⟨m0, by show (st + x).fmod 17 ≤ 16; omega⟩
end
end Mine
namespace Mine
def sh (a b i : Nat) : List Int := ((List.range i).map (fun k => ((k + 1 : Nat) : Int))).filter (fun d => ((a : Int).fmod d == 0) && ((b : Int).fmod d == 0))
theorem sh_succ (a b i : Nat) : sh a b (i + 1) = sh a b i ++ (if ((a : Int).fmod ((i + 1 : Nat) : Int) == 0) && ((b : Int).fmod ((i + 1 : Nat) : Int) == 0) then [((i + 1 : Nat) : Int)] else []) := by
  unfold sh
  rw [List.range_succ, List.map_append, List.filter_append]
  congr 1
  simp only [List.map_cons, List.map_nil, List.filter_cons, List.filter_nil]
def chk1 (a b : Nat) : Bool := decide (stein 40 a b 1 = some (if a + b = 0 then 0 else ((sh a b 16).getLastD 0).toNat)) && decide (0 < (sh a b 16).length) && decide ((0 : Int) ≤ (sh a b 16).getLastD 0) && decide ((sh a b 16).getLastD 0 ≤ 16)
theorem chk1_all : ∀ a ∈ List.range 17, ∀ b ∈ List.range 17, chk1 a b = true := by decide +kernel
def com (a b : Nat) : Nat := if a + b = 0 then 0 else ((sh a b 16).getLastD 0).toNat
structure Com (a b : Nat) : Prop where
  st : stein 40 a b 1 = some (com a b)
  ne : 0 < (sh a b 16).length
  la : a + b ≠ 0 → (sh a b 16).getLastD 0 = (com a b : Int)
  lt : com a b ≤ 16
theorem com_ok {a b : Nat} (ha : a ≤ 16) (hb : b ≤ 16) : Com a b := by
  have e := chk1_all a (by rw [List.mem_range]; omega) b (by rw [List.mem_range]; omega)
  unfold chk1 at e
  simp only [Bool.and_eq_true, decide_eq_true_eq] at e
  obtain ⟨⟨⟨e1, e2⟩, e3⟩, e4⟩ := e
  refine ⟨e1, e2, fun h => ?_, ?_⟩
  · unfold com; rw [if_neg h]; omega
  · unfold com; split <;> omega
def msG (out : Nat → Option Int) : Nat → Nat → Int → List Int
  | 0, _, _ => []
  | k + 1, i, last => ((out i).getD 0 + last) :: msG out k (i + 1) ((out i).getD 0 + last)
theorem ms_msG (out : Nat → Option Int) : ∀ k i, ms out (i + k) = ms out i ++ msG out k i ((ms out i).getLastD 0)
  | 0, i => by unfold msG; rw [Nat.add_zero, List.append_nil]
  | k + 1, i => by
    have e : i + (k + 1) = i + 1 + k := by omega
    rw [e, ms_msG out k (i + 1)]
    have e2 : ms out (i + 1) = ms out i ++ [(out i).getD 0 + (ms out i).getLastD 0] := rfl
    have e3 : (ms out (i + 1)).getLastD 0 = (out i).getD 0 + (ms out i).getLastD 0 := by rw [e2, List.getLastD_eq_getLast?, List.getLast?_append]; rfl
    rw [e3, e2, List.append_assoc]
    rfl
theorem ms_eq (out : Nat → Option Int) (k : Nat) : ms out k = msG out k 0 0 := by
  have := ms_msG out k 0
  rw [Nat.zero_add] at this
  exact this
/-- the first k that the generator gives -/
def gl (last : Option Int) : List Int → Nat → List Int
  | [], _ => []
  | n :: r, k => if n = 127 then [] else if n = 0 then (match last with | some x => List.replicate k x | none => []) else match k with
    | 0 => []
    | k + 1 => n :: gl (some n) r k
theorem gl_at : ∀ (ns : List Int) (last : Option Int) (k i : Nat), i < k → (gl last ns k)[i]? = gout last ns i
  | [], _, _, _, _ => rfl
  | n :: r, last, k, i, h => by
    unfold gl gout
    by_cases h1 : n = 127
    · rw [if_pos h1, if_pos h1]; rfl
    · rw [if_neg h1, if_neg h1]
      by_cases h2 : n = 0
      · rw [if_pos h2, if_pos h2]
        cases last with
        | none => rfl
        | some x => exact List.getElem?_replicate_of_lt h
      · rw [if_neg h2, if_neg h2]
        match k, i, h with
        | k + 1, 0, _ => rfl
        | k + 1, i + 1, h => exact gl_at r (some n) k i (by omega)
def pre (last : Int) : List Int → List Int
  | [] => []
  | x :: r => (x + last) :: pre (x + last) r
theorem msG_pre {out : Nat → Option Int} : ∀ (L : List Int) (i : Nat) (last : Int), (∀ j, j < L.length → L[j]? = out (i + j)) → msG out L.length i last = pre last L
  | [], _, _, _ => rfl
  | x :: r, i, last, h => by
    have e := h 0 (Nat.succ_pos _)
    rw [Nat.add_zero] at e
    have e : out i = some x := e.symm
    show ((out i).getD 0 + last) :: msG out r.length (i + 1) ((out i).getD 0 + last) = (x + last) :: pre (x + last) r
    rw [e]
    refine congrArg _ (msG_pre r (i + 1) (x + last) fun j hj => ?_)
    have := h (j + 1) (Nat.succ_lt_succ hj)
    rw [List.getElem?_cons_succ] at this
    rw [this]
    congr 1
    omega
def okM (a b n k : Nat) : Bool := Nat.beq (gl none (wayL a b n k) (mT n k)).length (mT n k) && (k % 2 != 1 || Nat.ble (gl none (wayL a b n k) (n + 2)).length (n + 1))
theorem okM_L {a b n k : Nat} (h : okM a b n k = true) : (gl none (wayL a b n k) (mT n k)).length = mT n k := by
  unfold okM at h
  rw [Bool.and_eq_true] at h
  exact Nat.eq_of_beq_eq_true h.1
theorem okM_T {a b n k : Nat} (h : okM a b n k = true) : (∀ i, i < mT n k → ∃ x, gout none (wayL a b n k) i = some x) ∧ (k % 2 = 1 → gout none (wayL a b n k) (n + 1) = none) := by
  have hL := okM_L h
  unfold okM at h
  rw [Bool.and_eq_true] at h
  refine ⟨fun i hi => ?_, fun hk => ?_⟩
  · rw [← gl_at _ _ (mT n k) i hi]
    exact ⟨_, List.getElem?_eq_getElem (by omega)⟩
  · have h2 := h.2
    rw [hk] at h2
    have h2 : Nat.ble (gl none (wayL a b n k) (n + 2)).length (n + 1) = true := h2
    rw [← gl_at _ _ (n + 2) (n + 1) (by omega), List.getElem?_eq_none_iff]
    exact Nat.le_of_ble_eq_true h2
def m1 (a b p : Nat) : List Int := pre 0 (gl none (wayL a b (a + 1) ((p + b) % 4)) (mT (a + 1) ((p + b) % 4)))
theorem m1_eq {a b p : Nat} (h : okM a b (a + 1) ((p + b) % 4) = true) : ms (gout none (wayL a b (a + 1) ((p + b) % 4))) (mT (a + 1) ((p + b) % 4)) = m1 a b p := by
  have hL := okM_L h
  rw [ms_eq]
  unfold m1
  rw [← msG_pre (out := gout none (wayL a b (a + 1) ((p + b) % 4))) _ 0 0 (fun j hj => by rw [Nat.zero_add]; exact gl_at _ _ _ _ (by omega)), hL]
def bt (a b p : Nat) : List Int := (m1 a b p).filter (fun x => (m1 b a p).contains x)
def chk2 (a b p : Nat) : Bool := okM a b (a + 1) ((p + b) % 4) && okM b a (b + 1) ((p + a) % 4) &&
  (match bt a b p with | x :: y :: _ => decide ((y - x) * ((stein 40 a b 1).getD 0 : Nat) = (a : Int) * b) && decide (-10000 ≤ y - x) && decide (y - x ≤ 10000) | _ => false)
theorem chk2_r1 : ∀ b ∈ (List.range 16).map (· + 1), ∀ p ∈ [1, 2, 3], chk2 1 b p = true := by decide +kernel
theorem chk2_r2 : ∀ b ∈ (List.range 16).map (· + 1), ∀ p ∈ [1, 2, 3], chk2 2 b p = true := by decide +kernel
theorem chk2_r3 : ∀ b ∈ (List.range 16).map (· + 1), ∀ p ∈ [1, 2, 3], chk2 3 b p = true := by decide +kernel
theorem chk2_r4 : ∀ b ∈ (List.range 16).map (· + 1), ∀ p ∈ [1, 2, 3], chk2 4 b p = true := by decide +kernel
theorem chk2_r5 : ∀ b ∈ (List.range 16).map (· + 1), ∀ p ∈ [1, 2, 3], chk2 5 b p = true := by decide +kernel
theorem chk2_r6 : ∀ b ∈ (List.range 16).map (· + 1), ∀ p ∈ [1, 2, 3], chk2 6 b p = true := by decide +kernel
theorem chk2_r7 : ∀ b ∈ (List.range 16).map (· + 1), ∀ p ∈ [1, 2, 3], chk2 7 b p = true := by decide +kernel
theorem chk2_r8 : ∀ b ∈ (List.range 16).map (· + 1), ∀ p ∈ [1, 2, 3], chk2 8 b p = true := by decide +kernel
theorem chk2_r9 : ∀ b ∈ (List.range 16).map (· + 1), ∀ p ∈ [1, 2, 3], chk2 9 b p = true := by decide +kernel
theorem chk2_r10 : ∀ b ∈ (List.range 16).map (· + 1), ∀ p ∈ [1, 2, 3], chk2 10 b p = true := by decide +kernel
theorem chk2_r11 : ∀ b ∈ (List.range 16).map (· + 1), ∀ p ∈ [1, 2, 3], chk2 11 b p = true := by decide +kernel
theorem chk2_r12 : ∀ b ∈ (List.range 16).map (· + 1), ∀ p ∈ [1, 2, 3], chk2 12 b p = true := by decide +kernel
theorem chk2_r13 : ∀ b ∈ (List.range 16).map (· + 1), ∀ p ∈ [1, 2, 3], chk2 13 b p = true := by decide +kernel
theorem chk2_r14 : ∀ b ∈ (List.range 16).map (· + 1), ∀ p ∈ [1, 2, 3], chk2 14 b p = true := by decide +kernel
theorem chk2_r15 : ∀ b ∈ (List.range 16).map (· + 1), ∀ p ∈ [1, 2, 3], chk2 15 b p = true := by decide +kernel
theorem chk2_r16 : ∀ b ∈ (List.range 16).map (· + 1), ∀ p ∈ [1, 2, 3], chk2 16 b p = true := by decide +kernel
theorem chk2_all : ∀ a ∈ (List.range 16).map (· + 1), ∀ b ∈ (List.range 16).map (· + 1), ∀ p ∈ [1, 2, 3], chk2 a b p = true := by
  intro a ha
  obtain rfl | rfl | rfl | rfl | rfl | rfl | rfl | rfl | rfl | rfl | rfl | rfl | rfl | rfl | rfl | rfl : a = 1 ∨ a = 2 ∨ a = 3 ∨ a = 4 ∨ a = 5 ∨ a = 6 ∨ a = 7 ∨ a = 8 ∨ a = 9 ∨ a = 10 ∨ a = 11 ∨ a = 12 ∨ a = 13 ∨ a = 14 ∨ a = 15 ∨ a = 16 := by
    rw [List.mem_map] at ha
    obtain ⟨k, hk, rfl⟩ := ha
    rw [List.mem_range] at hk
    omega
  · exact chk2_r1
  · exact chk2_r2
  · exact chk2_r3
  · exact chk2_r4
  · exact chk2_r5
  · exact chk2_r6
  · exact chk2_r7
  · exact chk2_r8
  · exact chk2_r9
  · exact chk2_r10
  · exact chk2_r11
  · exact chk2_r12
  · exact chk2_r13
  · exact chk2_r14
  · exact chk2_r15
  · exact chk2_r16
structure Mk (a b p : Nat) : Prop where
  o1 : okM a b (a + 1) ((p + b) % 4) = true
  o2 : okM b a (b + 1) ((p + a) % 4) = true
  bo : ∃ x y r, bt a b p = x :: y :: r ∧ (y - x) * (com a b : Int) = (a : Int) * b ∧ -10000 ≤ y - x ∧ y - x ≤ 10000
theorem mk_ok {a b p : Nat} (ha : a ≤ 16) (hb : b ≤ 16) (a0 : a ≠ 0) (b0 : b ≠ 0) (p1 : 1 ≤ p) (p3 : p ≤ 3) : Mk a b p := by
  have e := chk2_all a (List.mem_map.mpr ⟨a - 1, by rw [List.mem_range]; omega, by omega⟩) b (List.mem_map.mpr ⟨b - 1, by rw [List.mem_range]; omega, by omega⟩) p (by
    obtain rfl | rfl | rfl : p = 1 ∨ p = 2 ∨ p = 3 := by omega
    all_goals simp)
  unfold chk2 at e
  simp only [Bool.and_eq_true] at e
  obtain ⟨⟨e1, e2⟩, e3⟩ := e
  refine ⟨e1, e2, ?_⟩
  rw [(com_ok ha hb).st] at e3
  split at e3
  · rename_i x y r hbt
    simp only [Bool.and_eq_true, decide_eq_true_eq] at e3
    exact ⟨x, y, r, hbt, e3.1.1, e3.1.2, e3.2⟩
  · cases e3
end Mine
namespace Mine
theorem lslots {h₀ h h' : Heap} {L : Addr} {m : Str → Option Value} {news : List (Addr × Obj)} {oL : Obj} {sl} (S : Led h₀ L m h news) (ho : h.get? L = some oL) (hk : ∀ b o, b ≠ L → h.get? b = some o → h'.get? b = some o) (hl : h'.get? L = some { oL with slots := sl }) : Led h₀ L m h' news := by
  obtain ⟨o, a1, a2, hoL, hd, a3⟩ := S.fr.ns
  have e : o = oL := by have hoL : h.get? L = some o := hoL; rw [ho] at hoL; cases hoL; rfl
  subst e
  refine ⟨⟨⟨_, a1, a2, hl, hd, a3⟩, fun b x e => hk b x (fun q => ?_) (S.fr.keep b x e), S.fr.above⟩, fun p hp => ⟨hk _ _ (S.nw p hp).2.1 (S.nw p hp).1, (S.nw p hp).2⟩, S.nd⟩
  have := Heap.lt_size e
  rw [q] at this
  exact absurd this (Nat.not_lt.mpr S.fr.above)
section
variable {prog : Program} {w : World} {A : Around} {h₀ h : Heap} {g : Array GenState} {dr : Drawn} {t : Nat} {os : OsState} {L f l : Addr} {cd : Value} {mg mb : Str → Option Value} {n : Nat}
def s16 (i : Nat) : Stmt := match b15 2 with | .For _ _ b _ _ => b[i]?.getD (.Pass ⟨0, 0, 0, 0⟩) | _ => .Pass ⟨0, 0, 0, 0⟩
/-- the common divisors -/
theorem l_shared {a b : Nat} {ua ub : Tok} {r it : Addr} {oR oI o1 o2 o3 o4 : Obj} {vp vc vs vm vb : Option Value} (Gb : Glb mg mb h₀) (hR : Rm A n) (c2 : cel (some (.int a ua)) o2) (c3 : cel (some (.int b ub)) o3)
    (S : Led h₀ L (loc N15 [some (.ref l), vp, some (.ref r), vc, vs, vm, vb]) h [(it, oI), (r, oR), (L + 1 + 3, o4), (L + 1 + 2, o3), (L + 1 + 1, o2), (L + 1, o1)]) :
    W prog w A (exec (s16 2) (env15 L f cd)) (fun fl s => fl = .next ∧ ∃ h' t' D oD lD, s = ⟨h', g, dr, t', os⟩ ∧ IsLs oD (ivals lD) ∧ lD.map (·.1) = sh a b 16 ∧
      Led h₀ L (loc N15 [some (.ref l), vp, some (.ref r), vc, some (.ref D), vm, vb]) h' [(D, oD), (it, oI), (r, oR), (L + 1 + 3, o4), (L + 1 + 2, o3), (L + 1 + 1, o2), (L + 1, o1)]) NoE ⟨h, g, dr, t, os⟩ := by
  refine w_assignU (cl := [(("second" : Str), L + 1 + 2), (("first" : Str), L + 1 + 1)]) ?_ rfl
  refine v_callt S Gb bo_range (w_args (w_int fun u1 t1 => w_args (w_int fun u2 t2 => w_args0 ?_)))
  refine w_range2 S fun rg h₂ u3 t3 S => ?_
  refine w_iter_range S 0 rfl (by decide) (by decide) (by decide) fun c h₃ S => ?_
  refine cv_go S (fun D C oC h' P S' hP => self_range (lget S' 2 rfl) hP) fun D C oC h₄ S hC => ?_
  refine cu_loop (fun n s => ∃ i : Nat, ∃ h' t' oC oD mc lD, s = ⟨h', g, dr, t', os⟩ ∧ i + n = 16 ∧ IsNs oC mc ∧ IsLs oD (ivals lD) ∧ lD.map (·.1) = sh a b i ∧
      Led h₀ L (loc N15 [some (.ref l), vp, some (.ref r), vc, vs, vm, vb]) h' [(C, oC), (D, oD), (c, rgi ((i : Int) + 1) (16 - i)), (rg, rng 1 17 u1 u2 u3), (it, oI), (r, oR), (L + 1 + 3, o4), (L + 1 + 2, o3), (L + 1 + 1, o2), (L + 1, o1)]) ?_ 16
    ⟨0, h₄, t3, oC, _, _, [], rfl, by omega, hC, isLs_lst _ 0, rfl, S⟩
  rintro n s ⟨i, h', t', oC, oD, mc, lD, rfl, hin, hC, hoD, hlD, S⟩
  have hlen : lD.length ≤ 16 := by
    have e := congrArg List.length hlD
    rw [List.length_map] at e
    have : (sh a b i).length ≤ i := by
      unfold sh
      refine Nat.le_trans (List.length_filter_le ..) ?_
      rw [List.length_map, List.length_range]; exact Nat.le_refl _
    omega
  by_cases he : i = 16
  · refine w_end_rangeI S hR 2 rfl (by omega) fun h₅ S => ?_
    have S : Led h₀ L _ h₅ [(C, oC), (D, oD), (rg, rng 1 17 u1 u2 u3), (it, oI), (r, oR), (L + 1 + 3, o4), (L + 1 + 2, o3), (L + 1 + 1, o2), (L + 1, o1)] := S
    refine v_st S 4 fun h₆ t7 S => ?_
    refine ⟨mc, ns_iff.mpr ⟨oC, lget S 0 rfl, hC⟩, fun h₇ hs => ?_⟩
    have S := lext S hs.extBut
    exact ⟨rfl, h₇, t7, D, oD, lD, rfl, hoD, by rw [hlD, he], lsub S (List.Sublist.cons_cons _ (List.Sublist.cons _ (List.Sublist.refl _)))⟩
  · refine w_next_rangeI S 2 rfl (by omega) fun h₅ u5 t5 S => ?_
    have S : Led h₀ L _ h₅ [(C, oC), (D, oD), (c, rgi ((i : Int) + 1 + 1) (16 - i - 1)), (rg, rng 1 17 u1 u2 u3), (it, oI), (r, oR), (L + 1 + 3, o4), (L + 1 + 2, o3), (L + 1 + 1, o2), (L + 1, o1)] := S
    refine w_asg (w_cst S 0 rfl hC fun h₆ oC' t9 S hC => ?_)
    have S : Led h₀ L (loc N15 [some (.ref l), vp, some (.ref r), vc, vs, vm, vb]) h₆ [(C, oC'), (D, oD), (c, rgi (((i + 1 : Nat) : Int) + 1) (16 - ((i + 1 : Nat) : Int))), (rg, rng 1 17 u1 u2 u3), (it, oI), (r, oR), (L + 1 + 3, o4), (L + 1 + 2, o3), (L + 1 + 1, o2), (L + 1, o1)] := by
      have e1 : ((i + 1 : Nat) : Int) + 1 = (i : Int) + 1 + 1 := by omega
      have e2 : (16 : Int) - ((i + 1 : Nat) : Int) = 16 - i - 1 := by omega
      rw [e1, e2]; exact S
    have hd0 : ((i : Int) + 1) ≠ 0 := by omega
    have ed : (i : Int) + 1 = ((i + 1 : Nat) : Int) := by omega
    have hsh := sh_succ a b i
    refine w_if1 (w_tand (w_tcmp (w_binop (w_ccl S 8 c2 (w_cld S 0 rfl hC (if_pos rfl) (w_mod hd0 fun u6 t6 => w_int fun u7 t7 => w_eq (w_tbool ?_)))))))
    cases q1 : ((a : Int).fmod ((i : Int) + 1) == 0) with
    | false =>
      rw [if_neg Bool.false_ne_true, if_neg Bool.false_ne_true]
      refine ⟨n - 1, by omega, i + 1, h₆, _, oC', oD, _, lD, rfl, by omega, hC, hoD, ?_, S⟩
      rw [hlD, hsh, ← ed, q1, Bool.false_and, if_neg Bool.false_ne_true, List.append_nil]
    | true =>
      rw [if_pos rfl]
      refine w_tand (w_tcmp (w_binop (w_ccl S 7 c3 (w_cld S 0 rfl hC (if_pos rfl) (w_mod hd0 fun u8 t8 => w_int fun u9 t9 => w_eq (w_tbool ?_))))))
      cases q2 : ((b : Int).fmod ((i : Int) + 1) == 0) with
      | false =>
        rw [if_neg Bool.false_ne_true, if_neg Bool.false_ne_true]
        refine ⟨n - 1, by omega, i + 1, h₆, _, oC', oD, _, lD, rfl, by omega, hC, hoD, ?_, S⟩
        rw [hlD, hsh, ← ed, q1, q2, Bool.and_false, if_neg Bool.false_ne_true, List.append_nil]
      | true =>
        rw [if_pos rfl]
        refine w_tand0 ?_
        rw [if_pos rfl]
        refine w_cld S 0 rfl hC (if_pos rfl) ?_
        refine w_appendb S 1 rfl hoD (small (by rw [ivals_len]; omega)) fun h₇ oD' S hoD => ?_
        rw [← ivals_snoc] at hoD
        refine ⟨n - 1, by omega, i + 1, h₇, _, oC', oD', _, _, rfl, by omega, hC, hoD, ?_, S⟩
        rw [List.map_append, hlD, hsh, ← ed, q1, q2, Bool.and_self, if_pos rfl]
        rfl
theorem l_both {r it M1 M2 : Addr} {oR oI o1 o2 o3 o4 oM1 oM2 : Obj} {l1 l2 : List (Int × Tok)} {vp vc vs vb : Option Value} (hR : Rm A n) (c4 : cel (some (.ref M2)) o4) (hM1 : IsLs oM1 (ivals l1)) (hM2 : IsLs oM2 (ivals l2)) (hl1 : l1.length ≤ 100)
    (S : Led h₀ L (loc N15 [some (.ref l), vp, some (.ref r), vc, vs, some (.ref M1), vb]) h [(M2, oM2), (M1, oM1), (it, oI), (r, oR), (L + 1 + 3, o4), (L + 1 + 2, o3), (L + 1 + 1, o2), (L + 1, o1)]) :
    W prog w A (exec (s16 7) (env15 L f cd)) (fun fl s => fl = .next ∧ ∃ h' t' D oD lD, s = ⟨h', g, dr, t', os⟩ ∧ IsLs oD (ivals lD) ∧ lD.length ≤ 100 ∧ lD.map (·.1) = (l1.map (·.1)).filter (fun x => (l2.map (·.1)).contains x) ∧
      Led h₀ L (loc N15 [some (.ref l), vp, some (.ref r), vc, vs, some (.ref M1), some (.ref D)]) h' [(D, oD), (M2, oM2), (M1, oM1), (it, oI), (r, oR), (L + 1 + 3, o4), (L + 1 + 2, o3), (L + 1 + 1, o2), (L + 1, o1)]) NoE ⟨h, g, dr, t, os⟩ := by
  refine w_assignU (cl := [(("others" : Str), L + 1 + 3)]) (v_ld S 5 ?_) rfl
  refine w_iter_list S (isList_ls (lget S 1 rfl) hM1) fun c o h₃ S ho _ => ?_
  refine cv_go S (fun D C oC h' P S' hP => self_list (lget S' 2 rfl) ho hP) fun D C oC h₄ S hC => ?_
  refine cu_loop (fun n s => ∃ i h' t' oC oD o mc lD, s = ⟨h', g, dr, t', os⟩ ∧ i + n = l1.length + 1 ∧ i ≤ l1.length ∧ IsNs oC mc ∧ IsLs oD (ivals lD) ∧ lD.length ≤ i ∧ lD.map (·.1) = ((l1.take i).map (·.1)).filter (fun x => (l2.map (·.1)).contains x) ∧ IsLI o M1 i ∧
      Led h₀ L (loc N15 [some (.ref l), vp, some (.ref r), vc, vs, some (.ref M1), vb]) h' [(C, oC), (D, oD), (c, o), (M2, oM2), (M1, oM1), (it, oI), (r, oR), (L + 1 + 3, o4), (L + 1 + 2, o3), (L + 1 + 1, o2), (L + 1, o1)]) ?_ (l1.length + 1)
    ⟨0, h₄, t, oC, _, o, _, [], rfl, by omega, by omega, hC, isLs_lst _ 0, Nat.le_refl _, rfl, ho, S⟩
  rintro n s ⟨i, h', t', oC, oD, o, mc, lD, rfl, hin, hi, hC, hoD, hlen, hlD, ho, S⟩
  by_cases he : i = l1.length
  · refine w_end_listI S hR 2 rfl ho (isList_ls (lget S 4 rfl) hM1) (by rw [List.getElem?_eq_none_iff, ivals_len]; omega) fun h₅ S => ?_
    have S : Led h₀ L _ h₅ [(C, oC), (D, oD), (M2, oM2), (M1, oM1), (it, oI), (r, oR), (L + 1 + 3, o4), (L + 1 + 2, o3), (L + 1 + 1, o2), (L + 1, o1)] := S
    refine v_st S 6 fun h₆ t7 S => ?_
    refine ⟨mc, ns_iff.mpr ⟨oC, lget S 0 rfl, hC⟩, fun h₇ hs => ?_⟩
    have S := lext S hs.extBut
    exact ⟨rfl, h₇, t7, D, oD, lD, rfl, hoD, by omega, by rw [hlD, he, List.take_length], S⟩
  · have hlt : i < l1.length := by omega
    refine w_next_listI S 2 rfl ho (isList_ls (lget S 4 rfl) hM1) (v := .int (l1[i]).1 (l1[i]).2) (by unfold ivals; rw [List.getElem?_map, List.getElem?_eq_getElem hlt]; rfl) fun h₅ o' S ho => ?_
    have S : Led h₀ L _ h₅ [(C, oC), (D, oD), (c, o'), (M2, oM2), (M1, oM1), (it, oI), (r, oR), (L + 1 + 3, o4), (L + 1 + 2, o3), (L + 1 + 1, o2), (L + 1, o1)] := S
    refine w_asg (w_cst S 0 rfl hC fun h₆ oC' t9 S hC => ?_)
    have S : Led h₀ L _ h₆ [(C, oC'), (D, oD), (c, o'), (M2, oM2), (M1, oM1), (it, oI), (r, oR), (L + 1 + 3, o4), (L + 1 + 2, o3), (L + 1 + 1, o2), (L + 1, o1)] := S
    have step : ((l1.take (i + 1)).map (·.1)).filter (fun x => (l2.map (·.1)).contains x) = ((l1.take i).map (·.1)).filter (fun x => (l2.map (·.1)).contains x) ++ (if (l2.map (·.1)).contains (l1[i]).1 then [(l1[i]).1] else []) := by
      rw [List.take_add_one, List.getElem?_eq_getElem hlt, List.map_append, List.filter_append]
      congr 1
      simp only [Option.toList_some, List.map_cons, List.map_nil, List.filter_cons, List.filter_nil]
    refine w_if1 (w_tcmp (w_cld S 0 rfl hC (if_pos rfl) (w_ccl S 7 c4 ?_)))
    refine w_in_ints hR (lget S 3 rfl) hM2 (w_tbool ?_)
    cases q : (l2.map (·.1)).contains (l1[i]).1 with
    | false =>
      rw [if_neg Bool.false_ne_true]
      refine ⟨n - 1, by omega, i + 1, h₆, _, oC', oD, o', _, lD, rfl, by omega, by omega, hC, hoD, by omega, ?_, ho, S⟩
      rw [step, q, if_neg Bool.false_ne_true, List.append_nil, hlD]
    | true =>
      rw [if_pos rfl]
      refine w_cld S 0 rfl hC (if_pos rfl) ?_
      refine w_appendb S 1 rfl hoD (small (by rw [ivals_len]; omega)) fun h₇ oD' S hoD => ?_
      rw [← ivals_snoc] at hoD
      refine ⟨n - 1, by omega, i + 1, h₇, _, oC', oD', o', _, _, rfl, by omega, by omega, hC, hoD, by rw [List.length_append, List.length_singleton]; omega, ?_, ho, S⟩
      rw [step, q, if_pos rfl, List.map_append, hlD]
      rfl
end
end Mine
namespace Mine
theorem lr_at {lr : List (Int × Tok)} (h : InR lr) {i : Nat} (hi : i < lr.length) : ∃ a : Nat, ∃ u, a ≤ 16 ∧ (ivals lr)[i]? = some (.int (a : Int) u) := by
  have z := h lr[i] (List.getElem_mem hi)
  refine ⟨(lr[i]).1.toNat, (lr[i]).2, by omega, ?_⟩
  unfold ivals
  rw [List.getElem?_map, List.getElem?_eq_getElem hi, Int.toNat_of_nonneg z.1]
  rfl
section
variable {prog : Program} {w : World} {A : Around} {h₀ h : Heap} {g : Array GenState} {dr : Drawn} {t : Nat} {os : OsState} {L f l : Addr} {cd : Value} {mg mb : Str → Option Value} {n : Nat}
theorem l_loop {j : Nat} {r : Addr} {oR o1 o2 o3 o4 : Obj} {c2 c3 c4 : Option Value} {lr : List (Int × Tok)} (Gb : Glb mg mb h₀) (hR : Rm A (j + 5)) (hfr : A.frames = some [env15 L f cd]) (hg : AllBare g) (hoR : IsLs oR (ivals lr)) (h4 : lr.length = 4) (hr : InR lr)
    (hc2 : cel c2 o2) (hc3 : cel c3 o3) (hc4 : cel c4 o4)
    (S : Led h₀ L (loc N15 [some (.ref l), none, some (.ref r), none, none, none, none]) h [(r, oR), (L + 1 + 3, o4), (L + 1 + 2, o3), (L + 1 + 1, o2), (L + 1, o1)]) :
    W prog w A (exec (b15 2) (env15 L f cd)) (fun fl s => fl = .next ∧ ∃ h' g' t', s = ⟨h', g', dr, t', os⟩ ∧ AllBare g' ∧ Keeps h₀ h') NoE ⟨h, g, dr, t, os⟩ := by
  refine w_for (v_callt S Gb bo_range (w_args (w_int fun u1 t1 => w_args (w_int fun u2 t2 => w_args0 ?_))))
  refine w_range2 S fun rg h₂ u3 t3 S => ?_
  refine w_iter_range S 0 rfl (by decide) (by decide) (by decide) fun it h₃ S => ?_
  have S : Led h₀ L (loc N15 [some (.ref l), none, some (.ref r), none, none, none, none]) h₃ [(it, rgi 1 (4 - 1)), (r, oR), (L + 1 + 3, o4), (L + 1 + 2, o3), (L + 1 + 1, o2), (L + 1, o1)] := lsub S (List.Sublist.cons_cons _ (List.Sublist.cons _ (List.Sublist.refl _)))
  refine c_for (fun n s => ∃ p : Nat, ∃ h' g' t' vp vc vs vm vb o2 o3 o4 c2 c3 c4, s = ⟨h', g', dr, t', os⟩ ∧ p + n = 4 ∧ 1 ≤ p ∧ AllBare g' ∧ cel c2 o2 ∧ cel c3 o3 ∧ cel c4 o4 ∧
      Led h₀ L (loc N15 [some (.ref l), vp, some (.ref r), vc, vs, vm, vb]) h' [(it, rgi (p : Nat) (4 - p)), (r, oR), (L + 1 + 3, o4), (L + 1 + 2, o3), (L + 1 + 1, o2), (L + 1, o1)]) ?_ 3
    ⟨1, h₃, g, t3, _, _, _, _, _, o2, o3, o4, c2, c3, c4, rfl, by omega, by omega, hg, hc2, hc3, hc4, S⟩
  clear S hc2 hc3 hc4 hg
  rintro n s ⟨p, h', g', t', vp, vc, vs, vm, vb, o2, o3, o4, c2, c3, c4, rfl, hpn, hp1, hg, hc2, hc3, hc4, S⟩
  by_cases he : p = 4
  · refine w_end_rangeI S hR 0 rfl (by omega) fun h₅ S => ?_
    exact ⟨rfl, h₅, g', t', rfl, hg, S.fr.keep⟩
  · have hp3 : p ≤ 3 := by omega
    refine w_next_rangeI S 0 rfl (by omega) fun h₅ up t5 S => w_asg ?_
    refine v_st S 1 fun h₆ t6 S => ?_
    obtain ⟨a, ua, ha, hxa⟩ := lr_at hr (i := p - 1) (by omega)
    obtain ⟨b, ub, hb, hxb⟩ := lr_at hr (i := p) (by omega)
    refine w_then (fun s => ∃ h' t' o2 o3, s = ⟨h', g', dr, t', os⟩ ∧ cel (some (.int (a : Nat) ua)) o2 ∧ cel (some (.int (b : Nat) ub)) o3 ∧
      Led h₀ L (loc N15 [some (.ref l), some (.int p up), some (.ref r), vc, vs, vm, vb]) h' [(it, rgi ((p : Int) + 1) (4 - p - 1)), (r, oR), (L + 1 + 3, o4), (L + 1 + 2, o3), (L + 1 + 1, o2), (L + 1, o1)]) ?_ ?_
    · refine w_assignT (w_tuple (w_args (w_item (v_ld S 2 (w_binop (v_ld S 1 (w_int fun u4 t7 => w_sub fun u5 t8 => ?_)))))))
      have ep : ((p : Int) - 1) = ((p - 1 : Nat) : Int) := by omega
      rw [ep]
      refine w_li (isList_ls (lget S 1 rfl) hoR) (by omega) (by omega) (v := .int (a : Nat) ua) (by rw [Int.toNat_natCast]; exact hxa) ?_
      refine w_args (w_item (v_ld S 2 (v_ld S 1 ?_)))
      refine w_li (isList_ls (lget S 1 rfl) hoR) (by omega) (by omega) (v := .int (b : Nat) ub) (by rw [Int.toNat_natCast]; exact hxb) (w_args0 ?_)
      refine w_newtuple S (small (Nat.le_of_ble_eq_true rfl)) fun T h₇ S => ?_
      refine w_unpackT S hR (isTup_of (lget S 0 rfl)) fun h₈ S => w_asg ?_
      have S := ldrop S
      refine v_cs S 4 hc2 fun h₉ o2' S hc2' => w_asg ?_
      have S : Led h₀ L _ h₉ [(it, rgi ((p : Int) + 1) (4 - p - 1)), (r, oR), (L + 1 + 3, o4), (L + 1 + 2, o3), (L + 1 + 1, o2'), (L + 1, o1)] := S
      refine v_cs S 3 hc3 fun h₁₀ o3' S hc3' => ?_
      exact ⟨rfl, h₁₀, _, o2', o3', rfl, hc2', hc3', S⟩
    clear S hc2 hc3
    rintro s ⟨h₇, t7, o2, o3, rfl, hc2, hc3, S⟩
    have X := com_ok ha hb
    refine w_cons (w_assign (v_call S Gb 12 fun b12 => ?_))
    refine w_args (v_cl S 4 hc2 (w_args (v_cl S 3 hc3 (w_args (w_binop (v_ld S 1 (v_cl S 4 hc2 (w_add fun u4 t8 => w_args0 ⟨S.fr.keep, fun hf' Gb' => ?_⟩))))))))
    refine c_common (j := j + 1) Gb' hf' hR ha hb (by omega) (by omega) X.st fun h₈ t9 uR K => ?_
    have S := lkeeps S K
    refine v_st S 3 fun h₉ t10 S => ?_
    refine w_then (fun s => ∃ h' t' D oD lD, s = ⟨h', g', dr, t', os⟩ ∧ IsLs oD (ivals lD) ∧ lD.map (·.1) = sh a b 16 ∧
      Led h₀ L (loc N15 [some (.ref l), some (.int p up), some (.ref r), some (.int (com a b : Nat) uR), some (.ref D), vm, vb]) h' [(D, oD), (it, rgi ((p : Int) + 1) (4 - p - 1)), (r, oR), (L + 1 + 3, o4), (L + 1 + 2, o3), (L + 1 + 1, o2), (L + 1, o1)]) (l_shared Gb hR hc2 hc3 S) ?_
    clear S
    rintro s ⟨h₁₀, t11, Dd, oD, lD, rfl, hoD, hlD, S⟩
    have hDl : lD.length = (sh a b 16).length := by rw [← hlD, List.length_map]
    have hD16 : lD.length ≤ 16 := by
      rw [hDl]; unfold sh
      refine Nat.le_trans (List.length_filter_le ..) ?_
      rw [List.length_map, List.length_range]; exact Nat.le_refl _
    refine w_then (fun s => ∃ t', s = ⟨h₁₀, g', dr, t', os⟩) (w_if (w_tcmp (v_ld S 3 (w_ifexp (w_tplain (w_binop (v_cl S 5 hc2 (v_cl S 4 hc3 (w_add fun u5 t12 => w_tint ?_))))))))) ?_
    · refine if_post (fun x s => ∃ t' u', x = Value.int (com a b : Nat) u' ∧ s = ⟨h₁₀, g', dr, t', os⟩) ?_ ?_
      · by_cases h0 : a + b = 0
        · have e : (((a : Int) + (b : Int)) != 0) = false := by rw [bne_eq_false_iff_eq]; omega
          rw [e, if_neg Bool.false_ne_true]
          have e2 : com a b = 0 := by unfold com; rw [if_pos h0]
          rw [e2]
          exact w_int fun u6 t13 => ⟨t13, u6, rfl, rfl⟩
        · have e : (((a : Int) + (b : Int)) != 0) = true := by rw [bne_iff_ne]; omega
          rw [e, if_pos rfl]
          refine w_item (v_ld S 4 (w_unary (w_int fun u6 t13 => w_neg fun u7 t14 => ?_)))
          have hl0 : 0 < lD.length := by rw [hDl]; exact X.ne
          have hla : ∃ u, (ivals lD)[lD.length - 1]? = some (.int (com a b : Nat) u) := by
            refine ⟨(lD[lD.length - 1]'(by omega)).2, ?_⟩
            have e3 : (com a b : Int) = (lD[lD.length - 1]'(by omega)).1 := by
              rw [← X.la h0, ← hlD, List.getLastD_eq_getLast?, List.getLast?_eq_getElem?, List.getElem?_map, List.length_map, List.getElem?_eq_getElem (by omega)]
              rfl
            unfold ivals
            rw [List.getElem?_map, List.getElem?_eq_getElem (by omega), e3]
            rfl
          obtain ⟨ul, hul⟩ := hla
          have e4 : (-1 + ((ivals lD).length : Int)).toNat = lD.length - 1 := by rw [ivals_len]; omega
          exact w_lneg (x := -1) (isList_ls (lget S 0 rfl) hoD) (by decide) (by rw [ivals_len]; omega) (by decide) (by rw [e4]; exact hul) ⟨_, ul, rfl, rfl⟩
      rintro x s ⟨t13, u6, rfl, rfl⟩
      refine w_ne (w_tbool ?_)
      rw [bne_self_eq_false, if_neg Bool.false_ne_true]
      exact w_nil ⟨rfl, t13, rfl⟩
    rintro s ⟨t12, rfl⟩
    have S := ldrop S
    have eit : ∀ (q : Nat), q = p + 1 → (rgi ((p : Int) + 1) (4 - p - 1)) = rgi (q : Nat) (4 - (q : Nat)) := fun q hq => by
      subst hq
      have e1 : ((p + 1 : Nat) : Int) = (p : Int) + 1 := by omega
      have e2 : (4 : Int) - ((p + 1 : Nat) : Int) = 4 - p - 1 := by omega
      rw [e2, e1]
    refine w_cons (w_if (W.post (Q := fun c s => c = decide (a = 0 ∨ b = 0) ∧ ∃ t', s = ⟨h₁₀, g', dr, t', os⟩) (w_tor (w_tcmp (v_cl S 4 hc2 (w_int fun u6 t13 => w_eq (w_tbool ?_))))) ?_))
    · by_cases a0 : a = 0
      · have e : ((a : Int) == 0) = true := by rw [beq_iff_eq]; omega
        rw [e, if_pos rfl]
        exact ⟨(decide_eq_true (.inl a0)).symm, _, rfl⟩
      · have e : ((a : Int) == 0) = false := by rw [beq_eq_false_iff_ne]; omega
        rw [e, if_neg Bool.false_ne_true]
        refine w_tor (w_tcmp (v_cl S 3 hc3 (w_int fun u7 t14 => w_eq (w_tbool ?_))))
        by_cases b0 : b = 0
        · have e : ((b : Int) == 0) = true := by rw [beq_iff_eq]; omega
          rw [e, if_pos rfl]
          exact ⟨(decide_eq_true (.inr b0)).symm, _, rfl⟩
        · have e : ((b : Int) == 0) = false := by rw [beq_eq_false_iff_ne]; omega
          rw [e, if_neg Bool.false_ne_true]
          exact w_tor0 ⟨(decide_eq_false (by rintro (q | q) <;> omega)).symm, _, rfl⟩
    rintro c s ⟨rfl, t13, rfl⟩
    by_cases hz : a = 0 ∨ b = 0
    · rw [decide_eq_true hz, if_pos rfl]
      refine w_cons (w_if (w_tnot (w_tplain (v_call S Gb 14 fun b14 => ?_))))
      refine w_args (w_list (w_args (w_int fun u7 t14 => w_args (w_binop (v_cl S 4 hc2 (v_cl S 3 hc3 (w_add fun u8 t15 => w_args0 ?_)))))))
      refine w_newlist S (small (Nat.le_of_ble_eq_true rfl)) fun l2 h₁₁ S => w_args0 ⟨S.fr.keep, fun hf' Gb' => ?_⟩
      obtain ⟨oL, es, ep, hoL, hdL, _⟩ := id S.fr.ns
      have hole0 : Keeps h₀ (hole L h₁₁) := fun b o e => by
        have n1 : b ≠ L := fun q => by
          have := Heap.lt_size e
          rw [q] at this
          exact absurd this (Nat.not_lt.mpr S.fr.above)
        rw [hole_other _ n1]; exact S.fr.keep b o e
      refine c_refused (j := j + 3) (Lo := L) (oo := oL) (envO := env15 L f cd) (us := [.int 0 u7, .int ((a : Int) + b) u8]) (u0 := u7) (Gb.keeps hole0) hf' hR (isList_of (lget S 0 rfl)) rfl hfr rfl (by show (D 15).scope.kind ≠ .module; rw [cx15.kind]; decide) hoL ⟨es, ep, hdL⟩ fun h₁₂ t16 sl hk hLo => ?_
      have S := ldrop (lslots S hoL hk hLo)
      refine w_tbool ?_
      rw [if_neg (by decide)]
      refine w_nil (w_cons (w_cont ?_))
      refine ⟨n - 1, by omega, p + 1, h₁₂, g'.push .finished, t16, some (.int p up), some (.int (com a b : Nat) uR), some (.ref Dd), vm, vb, o2, o3, o4, _, _, c4, rfl, by omega, by omega, hg.push rfl, hc2, hc3, hc4, ?_⟩
      rw [← eit (p + 1) rfl]
      exact S
    · rw [decide_eq_false hz, if_neg Bool.false_ne_true]
      refine w_nil ?_
      have a0 : a ≠ 0 := fun e => hz (.inl e)
      have b0 : b ≠ 0 := fun e => hz (.inr e)
      have Y := mk_ok ha hb a0 b0 hp1 hp3
      have em : ∀ c : Nat, ((p : Int) + (c : Int)).fmod 4 = (((p + c) % 4 : Nat) : Int) := fun c => by rw [Int.fmod_eq_emod_of_nonneg _ (by decide)]; omega
      have ep1 : ∀ c : Nat, ((c : Int) + 1) = ((c + 1 : Nat) : Int) := fun c => by omega
      refine w_cons (w_assign (v_call S Gb 13 fun b13 => ?_))
      refine w_args (v_cl S 4 hc2 (w_args (v_cl S 3 hc3 (w_args (w_binop (v_cl S 4 hc2 (w_int fun u7 t14 => w_add fun u8 t15 => ?_)))))))
      refine w_args (w_binop (w_binop (v_ld S 1 (v_cl S 3 hc3 (w_add fun u9 t16 => w_int fun u10 t17 => w_mod (by decide) fun u11 t18 => w_args0 ⟨S.fr.keep, fun hf' Gb' => ?_⟩)))))
      rw [em, ep1]
      refine c_marks (j := j + 3) Gb' hf' hR (by omega) (by omega) (by omega) (okM_T Y.o1).1 (okM_T Y.o1).2 fun h₁₁ t19 gs1 M1 oM1 l1 K b1 n1 e1 i1 z1 => ?_
      have S := ladd S K n1 e1
      refine v_st S 5 fun h₁₂ t20 S => ?_
      refine w_cons (w_assign (v_call S Gb 13 fun b13' => ?_))
      refine w_args (v_cl S 4 hc3 (w_args (v_cl S 5 hc2 (w_args (w_binop (v_cl S 4 hc3 (w_int fun u12 t21 => w_add fun u13 t22 => ?_)))))))
      refine w_args (w_binop (w_binop (v_ld S 1 (v_cl S 5 hc2 (w_add fun u14 t23 => w_int fun u15 t24 => w_mod (by decide) fun u16 t25 => w_args0 ⟨S.fr.keep, fun hf' Gb' => ?_⟩)))))
      rw [em, ep1]
      refine c_marks (j := j + 3) Gb' hf' hR (by omega) (by omega) (by omega) (okM_T Y.o2).1 (okM_T Y.o2).2 fun h₁₃ t26 gs2 M2 oM2 l2 K b2 n2 e2 i2 z2 => ?_
      have S := ladd S K n2 e2
      refine v_cs S 4 hc4 fun h₁₄ o4' S hc4' => ?_
      have S : Led h₀ L (loc N15 [some (.ref l), some (.int p up), some (.ref r), some (.int (com a b : Nat) uR), some (.ref Dd), some (.ref M1), vb]) h₁₄ [(M2, oM2), (M1, oM1), (it, rgi ((p : Int) + 1) (4 - p - 1)), (r, oR), (L + 1 + 3, o4'), (L + 1 + 2, o3), (L + 1 + 1, o2), (L + 1, o1)] := S
      have hl1 : l1.length ≤ 100 := by
        have := congrArg List.length z1
        rw [List.length_map, ms_len] at this
        unfold mT at this
        split at this <;> omega
      refine w_then (fun s => ∃ h' t' D oD lD, s = ⟨h', (g'.push gs1).push gs2, dr, t', os⟩ ∧ IsLs oD (ivals lD) ∧ lD.length ≤ 100 ∧ lD.map (·.1) = (l1.map (·.1)).filter (fun x => (l2.map (·.1)).contains x) ∧
        Led h₀ L (loc N15 [some (.ref l), some (.int p up), some (.ref r), some (.int (com a b : Nat) uR), some (.ref Dd), some (.ref M1), some (.ref D)]) h' [(D, oD), (M2, oM2), (M1, oM1), (it, rgi ((p : Int) + 1) (4 - p - 1)), (r, oR), (L + 1 + 3, o4'), (L + 1 + 2, o3), (L + 1 + 1, o2), (L + 1, o1)]) (l_both hR hc4' i1 i2 hl1 S) ?_
      clear S
      rintro s ⟨h₁₅, t27, D8, oD8, l8, rfl, i8, hl8, z8, S⟩
      have hbt : l8.map (·.1) = bt a b p := by rw [z8, z1, z2, m1_eq Y.o1, m1_eq Y.o2]; rfl
      obtain ⟨x, y, rr, hxy, hmul, y1, y2⟩ := Y.bo
      rw [hxy] at hbt
      obtain ⟨q1, q2, q3, rfl⟩ : ∃ q1 q2 q3, l8 = q1 :: q2 :: q3 := by
        match l8, hbt with
        | q1 :: q2 :: q3, _ => exact ⟨q1, q2, q3, rfl⟩
      have hx1 : q1.1 = x := by simp only [List.map_cons] at hbt; exact (List.cons.inj hbt).1
      have hx2 : q2.1 = y := by simp only [List.map_cons] at hbt; exact (List.cons.inj (List.cons.inj hbt).2).1
      have hlen2 : (ivals (q1 :: q2 :: q3)).length = q3.length + 2 := by rw [ivals_len]; rfl
      have hl9 : q3.length + 2 ≤ 100 := by have := hl8; simp only [List.length_cons] at this; omega
      refine w_cons (w_if (w_tor (w_tcmp (v_callb S Gb bo_len (w_args (v_ld S 6 (w_args0 ?_)))))))
      refine w_lenl (isList_ls (lget S 0 rfl) i8) (small (by omega)) fun u17 t28 => w_int fun u18 t29 => w_lt (w_tbool ?_)
      rw [hlen2, decide_eq_false (by omega : ¬ ((q3.length + 2 : Nat) : Int) < 2), if_neg Bool.false_ne_true]
      refine w_tor (w_tcmp (w_binop (w_binop (w_item (v_ld S 6 (w_int fun u19 t30 => ?_))))))
      refine w_li (isList_ls (lget S 0 rfl) i8) (by decide) (by decide) (v := .int q2.1 q2.2) rfl ?_
      refine w_item (v_ld S 6 (w_int fun u20 t31 => ?_))
      refine w_li (isList_ls (lget S 0 rfl) i8) (by decide) (by decide) (v := .int q1.1 q1.2) rfl ?_
      refine w_sub fun u21 t32 => v_ld S 3 ?_
      rw [hx1, hx2]
      refine w_mul (mulSmall (by omega) (by omega)) fun u22 t33 => ?_
      refine w_binop (v_cl S 7 hc2 (v_cl S 6 hc3 ?_))
      refine w_mul (mulSmall (by omega) (by omega)) fun u23 t34 => w_ne (w_tbool ?_)
      rw [hmul, bne_self_eq_false, if_neg Bool.false_ne_true]
      refine w_tor0 ?_
      rw [if_neg Bool.false_ne_true]
      refine w_nil (w_nil ?_)
      refine ⟨n - 1, by omega, p + 1, h₁₅, _, t34, some (.int p up), some (.int (com a b : Nat) uR), some (.ref Dd), some (.ref M1), some (.ref D8), o2, o3, o4', _, _, _, rfl, by omega, by omega, (hg.push b1).push b2, hc2, hc3, hc4', ?_⟩
      rw [← eit (p + 1) rfl]
      exact lsub S (List.Sublist.cons _ (List.Sublist.cons _ (List.Sublist.cons _ (List.Sublist.refl _))))
end
end Mine
namespace Mine
section
variable {prog : Program} {w : World} {A : Around} {h : Heap} {g : Array GenState} {dr : Drawn} {t : Nat} {os : OsState} {f l : Addr} {mg mb : Str → Option Value} {E : Value → Shared → Prop} {Q : Value → Shared → Prop}
theorem c_law {j : Nat} {li : List (Int × Tok)} (Gb : Glb mg mb h) (hf : IsFn (D 15) h f) (hR : Rm A (j + 6)) (hfr : A.frames = some []) (hl : h.IsList l (ivals li).toArray) (hlen : li.length ≤ 63) (hg : AllBare g)
    (q : ∀ h' g' t', Keeps h h' → AllBare g' → Q (.bool true) ⟨h', g', dr, t', os⟩) :
    W prog w A (call (.ref f) [.ref l]) Q E ⟨h, g, dr, t, os⟩ := by
  obtain ⟨o, pm, cd, doc, h1, h2, h3⟩ := hf
  refine ⟨wpAny_call (call_cells_ret (s := ⟨h, g, dr, t, os⟩) (binds := [(("script" : Str), Value.ref l)]) hR.room h1 h2 Gb.nolimit h3 rfl (fun y hy => ?_) (fun h₁ tk F X => ?_) sc15.1 sc15.2 cx15.kind)⟩
  · rw [List.mem_singleton] at hy
    subst hy
    exact .inl (cx15.loc "script" (by decide +kernel)).1
  have hkl : (envOfC (D 15).name (D 15).scope h.objs.size f cd).kindOf "script" = some .local := (cx15.loc "script" (by decide +kernel)).1
  have F : Fr h h.objs.size h₁ (loc N15 [some (.ref l), none, none, none, none, none, none]) := by
    have e : bindL (envOfC (D 15).name (D 15).scope h.objs.size f cd).kindOf [(("script" : Str), Value.ref l)] (fun _ => none) = loc N15 [some (.ref l), none, none, none, none, none, none] := by
      unfold bindL
      rw [if_pos hkl]
      unfold bindL
      have e2 := loc_start (pn := ["script"]) (rest := ["place", "row", "common", "shared", "marks", "both"]) (args := [Value.ref l]) cx15.nd rfl
      refine Eq.trans ?_ e2
      funext y
      simp only [List.zip_cons_cons, List.zip_nil_left, List.reverse_cons, List.reverse_nil, List.nil_append, List.lookup_cons, List.lookup_nil]
      by_cases hy : y = "script"
      · subst hy; simp
      · rw [if_neg hy]
        have : (y == (Str.ofString "script")) = false := beq_eq_false_iff_ne.mpr hy
        rw [this]
    exact e ▸ F
  have cell : ∀ x c, (cellsFrom (h.objs.size + 1) (D 15).scope.names []).lookup x = some c → h₁.IsCell c none := fun x c e => by
    have := X.cell x c e
    unfold bindC at this
    rw [if_pos hkl] at this
    exact this
  rw [cells15] at cell
  clear X
  have hsz : ∀ k : Nat, h.get? (h.objs.size + 1 + k) = none := fun k => Heap.get?_none_of_le (by omega)
  generalize hL : h.objs.size = L at F cell hkl hsz ⊢
  obtain ⟨o4, e4, d4⟩ := cell "others" (L + 1 + 3) rfl
  obtain ⟨o3, e3, d3⟩ := cell "second" (L + 1 + 2) rfl
  obtain ⟨o2, e2, d2⟩ := cell "first" (L + 1 + 1) rfl
  obtain ⟨o1, e1, d1⟩ := cell "drawn" (L + 1) rfl
  have S : Led h L (loc N15 [some (.ref l), none, none, none, none, none, none]) h₁ [(L + 1 + 3, o4), (L + 1 + 2, o3), (L + 1 + 1, o2), (L + 1, o1)] := by
    refine ⟨F, fun p hp => ?_, ?_⟩
    · rcases List.mem_cons.mp hp with rfl | hp
      · exact ⟨e4, by show ¬ (L + 1 + 3 = L); omega, hsz 3⟩
      · rcases List.mem_cons.mp hp with rfl | hp
        · exact ⟨e3, by show ¬ (L + 1 + 2 = L); omega, hsz 2⟩
        · rcases List.mem_cons.mp hp with rfl | hp
          · exact ⟨e2, by show ¬ (L + 1 + 1 = L); omega, hsz 1⟩
          · rcases List.mem_cons.mp hp with rfl | hp
            · exact ⟨e1, by show ¬ (L + 1 = L); omega, hsz 0⟩
            · cases hp
    · simp
  have hR' : Rm (A.deeper (env15 L f cd)) (j + 5) := hR.deeper _
  have hfr' : (A.deeper (env15 L f cd)).frames = some [env15 L f cd] := by
    show A.frames.map _ = _
    rw [hfr]; rfl
  refine W.out (E := NoE) (Q := fun fl s' => Q (match fl with | .ret v => v | _ => .none) s') (t := execs [b15 0, b15 1, b15 2, b15 3] (env15 L f cd)) ?_
  refine w_then _ (l_drawn S d1 hR' hl hlen) ?_
  clear S
  rintro s ⟨h₂, t2, b, ob, lb, o1', rfl, hob, hlb, c1, S⟩
  refine w_then _ (l_row Gb S hob hlb c1 hR') ?_
  clear S
  rintro s ⟨h₃, t3, r, oR, lr, rfl, hoR, h4, hr, S⟩
  refine w_then _ (l_loop Gb hR' hfr' hg hoR h4 hr d2 d3 d4 S) ?_
  rintro s ⟨h₄, g', t4, rfl, hg', K⟩
  exact w_cons (w_ret (w_bool (q h₄ g' t4 K hg')))
end
end Mine
namespace Mine
abbrev defs : List DefRec := [D 1, D 3, D 4, D 6, D 7, D 9, D 10, D 11, D 12, D 13, D 14, D 15]
def freeB (p : Program) (loose : List Str) : Bool := buNames.all fun x => !startupNames.contains x && !loose.contains x && !((recsOf p).map (·.name)).contains x && !((litsOf p).map (·.1)).contains x && !((clssOf p loose).map (·.name)).contains x && !(x == ("__name__" : Str))
theorem glb_top {p : Program} {loose : List Str} {mean : ExcName → Option Value} {mg mb : Str → Option Value} {h : Heap} (T : Top p loose mean mg mb h) (hrec : recsOf p = defs) (hcm : valOf p "CHAR_MAX" = some (.int 127)) (hfree : freeB p loose = true) :
    Glb mg mb h ∧ ∃ f, mg (D 15).name = some (.ref f) ∧ IsFn (D 15) h f := by
  have fn : ∀ d ∈ defs, ∃ f, mg d.name = some (.ref f) ∧ IsFn d h f := fun d hd => by
    obtain ⟨a, o, pm, code, doc, e1, e2, e3, e4⟩ := T.fn d (by rw [hrec]; exact hd)
    exact ⟨a, e1, o, pm, code, doc, e2, e3, e4⟩
  refine ⟨⟨T.g, T.b, T.nolimit, fun i hi => fn (D i) ?_, ?_, fun x hx => ?_⟩, fn (D 15) (List.mem_of_getElem? (i := 11) rfl)⟩
  · have : D i ∈ fnIdx.map D := List.mem_map_of_mem hi
    have e : defs = fnIdx.map D ++ [D 15] := rfl
    rw [e]
    exact List.mem_append_left _ this
  · obtain ⟨v, e1, e2⟩ := T.const _ _ hcm
    cases e2 h with
    | int n t => exact ⟨t, e1⟩
  · unfold freeB at hfree
    rw [List.all_eq_true] at hfree
    have z := hfree x hx
    simp only [Bool.and_eq_true, Bool.not_eq_true', List.contains_eq_mem, decide_eq_false_iff_not, beq_eq_false_iff_ne] at z
    obtain ⟨⟨⟨⟨⟨z1, z2⟩, z3⟩, z4⟩, z5⟩, z6⟩ := z
    exact ⟨T.free x z1 z2 z3 z4 z5, T.builtins x z6⟩
theorem rm0 : Rm callerA 6 := ⟨rfl, by decide +kernel, by decide +kernel⟩
theorem law_ends {p : Program} {loose : List Str} {mean : ExcName → Option Value} {mg mb : Str → Option Value} {prog : Program} {w : World} {s : Shared} {fa l : Addr} {vs : List Value} {ns : List Int} {Q : Value → Shared → Prop} {E : Value → Shared → Prop}
    (T : Top p loose mean mg mb s.heap) (hrec : recsOf p = defs) (hcm : valOf p "CHAR_MAX" = some (.int 127)) (hfree : freeB p loose = true) (hmg : mg (D 15).name = some (.ref fa)) (hg : s.gens = #[]) (hl : s.heap.IsList l vs.toArray) (hi : IntsAre vs ns) (hlen : ns.length ≤ 63)
    (q : ∀ h' g' t', Keeps s.heap h' → AllBare g' → Q (.bool true) ⟨h', g', s.drawn, t', s.os⟩) : wpAny (model prog w) callerA (call (.ref fa) [.ref l]) Q E s := by
  obtain ⟨Gb, f, e1, e2⟩ := glb_top T hrec hcm hfree
  have : f = fa := by rw [hmg] at e1; cases e1; rfl
  subst this
  obtain ⟨li, rfl, rfl⟩ := ivals_of_intsAre hi
  obtain ⟨h, g, dr, t, os⟩ := s
  exact (c_law (j := 0) Gb e2 rm0 rfl hl (by rw [List.length_map] at hlen; exact hlen) (AllBare.of_eq hg) q).out
end Mine
open PySem PySem.W PySem.W.X PySem.W.ZRun PyProof.Rows
set_option maxRecDepth 100000 in
set_option maxHeartbeats 0 in
theorem PySem.Challenge.cw_pk0044_01_holds : PySem.Challenge.rw_pk0044_01.Holds := by
  w_on
  o_law
  z_head
  (case hw => w_witness2)
  k_fill
  intro w s₀ s₁ mg mb G y fa o pm cd doc dV kV ho hd hcd hD hmg hg args vals as L hpre hlay hrd hwl hlo
  z_open y L KX ZH ZN ZT
  refine Ground.open G ?_
  intro T B D TE TW
  wrow_args hpre hlay hrd hwl hlo
  clear hd hcd hD B D TE TW KX ZH y
  rename Heap.IsList _ _ _ => hLs
  rename IntsAre _ _ => hIn
  rename ¬ _ < _ => hle
  refine Mine.law_ends T (by kernel_rfl) (by kernel_rfl) (by decide +kernel) hmg hg hLs hIn (by omega) fun h' g' t' K hb => ?_
  refine ⟨.inl ⟨_, _, [], rfl, fun _ => rfl, ReadsW.bool true, ?_, fun _ => ⟨List.nodup_nil, fun _ hm => (nomatch hm)⟩⟩, .of_keep K, rfl, hb⟩
  first | rfl | wrow_post
