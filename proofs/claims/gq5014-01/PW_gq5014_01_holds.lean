import PyProof.Rows.All
import Wide.All
import OpenK.AllK
import Wide.FinOn
import PySem.Challenge.RW_gq5014_01
open PySem PySem.W PyProof.Rows PySem.Calls
set_option Elab.async false
set_option maxRecDepth 100000
set_option maxHeartbeats 8000000
namespace Mine

def fnm : Stmt → DefRec
  | .FunctionDef n a b _ _ _ sc _ _ p => ⟨n, a, b, sc, p⟩
  | _ => ⟨"", {posonlyargs := [], args := [], vararg := none, kwonlyargs := [], kw_defaults := [], kwarg := none, defaults := []}, [], {kind := .module, names := [], isGenerator := false, isCoroutine := false}, default⟩
def topSt (i : Nat) : Stmt := (PySem.Challenge.pw_gq5014_01.main.body)[i]?.getD (.Pass default)

abbrev Ext (h h' : Heap) : Prop := ∀ b o, h.get? b = some o → h'.get? b = some o

theorem Ext.rfl' {h : Heap} : Ext h h := fun _ _ e => e
theorem Ext.trans' {h h' h'' : Heap} (x : Ext h h') (y : Ext h' h'') : Ext h h'' := fun b o e => y b o (x b o e)
theorem Ext.pushed {h : Heap} (o : Obj) : Ext h (h.push o) := fun _ _ e => Heap.get?_push_of_some _ e

/-- a def that stands at f -/
def FnAt (d : DefRec) (h : Heap) (f : Addr) : Prop :=
  ∃ o pm code doc, h.get? f = some o ∧ o.data = .func (docDef d.name d.params d.body d.scope pm code doc) ∧ h.CodeRec code d.name
theorem FnAt.keeps {d : DefRec} {h h' : Heap} {f : Addr} (x : FnAt d h f) (k : Ext h h') : FnAt d h' f :=
  let ⟨o, pm, code, doc, a, b, c⟩ := x; ⟨o, pm, code, doc, k _ _ a, b, c.keeps k⟩

/-- what every frame asks of the top -/
structure Grd (mg mb : Str → Option Value) (h : Heap) : Prop where
  g : h.Ns mainGlobals mg
  b : h.Ns builtinsNs mb
  nolimit : h.NoLimit
theorem Grd.keeps {mg mb : Str → Option Value} {h h' : Heap} (x : Grd mg mb h) (k : Ext h h') : Grd mg mb h' := ⟨x.g.keeps k, x.b.keeps k, x.nolimit.keeps k⟩

def upd (m : Str → Option Value) (x : Str) (v : Value) : Str → Option Value := fun y => if y = x then some v else m y
theorem upd_same (m : Str → Option Value) (x : Str) (v : Value) : upd m x v x = some v := if_pos rfl
theorem upd_other {m : Str → Option Value} {x y : Str} {v : Value} (h : y ≠ x) : upd m x v y = m y := if_neg h

structure Sta (h₀ : Heap) (L : Addr) (m : Str → Option Value) (news : List (Addr × Obj)) (h : Heap) : Prop where
  fr : Fr h₀ L h m
  nw : News h₀ L h news

section
variable {h₀ h h' : Heap} {L : Addr} {m m' : Str → Option Value} {news news' : List (Addr × Obj)}
theorem Sta.ext (S : Sta h₀ L m news h) (k : Ext h h') : Sta h₀ L m news h' := ⟨S.fr.keeps k, S.nw.grown k⟩
theorem Sta.set (S : Sta h₀ L m news h) (hn : h'.Ns L m') (hs : Heap.SameBut L h h') : Sta h₀ L m' news h' := ⟨S.fr.set hn hs, S.nw.set hs⟩
theorem Sta.push (S : Sta h₀ L m news h) (o : Obj) (hf : o.isFreed = false := by rfl) : Sta h₀ L m ((h.objs.size, o) :: news) (h.push o) := ⟨S.fr.push o, S.nw.push S.fr o hf⟩
theorem Sta.drop (S : Sta h₀ L m news h) (k : ∀ p ∈ news', p ∈ news) : Sta h₀ L m news' h := ⟨S.fr, fun p hp => S.nw p (k p hp)⟩
theorem Sta.tail {p : Addr × Obj} (S : Sta h₀ L m (p :: news) h) : Sta h₀ L m news h := S.drop fun _ hq => List.mem_cons_of_mem _ hq
theorem Sta.new {a : Addr} {o : Obj} (S : Sta h₀ L m news h) (e : h.get? a = some o) (hL : a ≠ L) (hn : h₀.get? a = none) : Sta h₀ L m ((a, o) :: news) h :=
  ⟨S.fr, fun p hp => by rcases List.mem_cons.mp hp with rfl | hp; exact ⟨e, hL, hn⟩; exact S.nw p hp⟩
theorem Sta.get {a : Addr} {o : Obj} (S : Sta h₀ L m news h) (hm : (a, o) ∈ news) : h.get? a = some o := (S.nw _ hm).1
/-- one object of the ledger changed -/
theorem Sta.change {a : Addr} {o o' : Obj} {pre post : List (Addr × Obj)} (S : Sta h₀ L m (pre ++ (a, o) :: post) h) (hs : Heap.SameBut a h h') (ho : h'.get? a = some o')
    (h1 : ∀ p ∈ pre, p.1 ≠ a) (h2 : ∀ p ∈ post, p.1 ≠ a) : Sta h₀ L m (pre ++ (a, o') :: post) h' := by
  have ha := S.nw (a, o) (List.mem_append.mpr (.inr (List.mem_cons_self)))
  refine ⟨S.fr.change hs ha.2.1 ha.2.2, fun p hp => ?_⟩
  rcases List.mem_append.mp hp with hq | hq
  · have := S.nw p (List.mem_append.mpr (.inl hq))
    exact ⟨(hs.2 p.1 (h1 p hq)).trans this.1, this.2⟩
  · rcases List.mem_cons.mp hq with rfl | hq
    · exact ⟨ho, ha.2⟩
    · have := S.nw p (List.mem_append.mpr (.inr (List.mem_cons_of_mem _ hq)))
      exact ⟨(hs.2 p.1 (h2 p hq)).trans this.1, this.2⟩
theorem Sta.old {b : Addr} {o : Obj} (S : Sta h₀ L m news h) (e : h₀.get? b = some o) : h.get? b = some o := S.fr.keep b o e
theorem Sta.lt (S : Sta h₀ L m news h) : ∀ p ∈ news, p.1 < h.objs.size := fun p hp => Heap.lt_size (S.nw p hp).1
theorem Sta.neL (S : Sta h₀ L m news h) : ∀ p ∈ news, p.1 ≠ L := fun p hp => (S.nw p hp).2.1
end

/-- an int, whatever its token -/
def IsI (i : Int) (v : Value) : Prop := ∃ t, v = .int i t
def IsS (x : Str) (v : Value) : Prop := ∃ t, v = .str x t
def Is (u v : Value) : Prop := v = u

/-- all of the state but the heap and the tokens -/
structure Rest (s s' : Shared) : Prop where
  gens : s'.gens = s.gens
  os : s'.os = s.os
  drawn : s'.drawn = s.drawn
theorem Rest.rfl' {s : Shared} : Rest s s := ⟨rfl, rfl, rfl⟩
theorem Rest.trans' {s s' s'' : Shared} (x : Rest s s') (y : Rest s' s'') : Rest s s'' := ⟨y.gens.trans x.gens, y.os.trans x.os, y.drawn.trans x.drawn⟩
theorem Rest.keeps {s s' : Shared} (x : Rest s s') (k : Ext s.heap s'.heap) : Keeps s s' :=
  ⟨s'.heap, s'.toks, by obtain ⟨h, g, d, t, o⟩ := s'; obtain ⟨h₁, g₁, d₁, t₁, o₁⟩ := s; obtain ⟨rfl, rfl, rfl⟩ := x; rfl, k⟩
theorem Rest.of_keeps {s s' : Shared} (x : Keeps s s') : Rest s s' ∧ Ext s.heap s'.heap := by
  obtain ⟨h', tk, rfl, k⟩ := x
  exact ⟨⟨rfl, rfl, rfl⟩, k⟩

section
variable (prog : Program) (w : World) (A : Around) (env : Env) (h : Heap)
/-- from a state whose heap is h the expression gives a value with P; the heap stays -/
def EvP (e : Expr) (P : Value → Prop) : Prop :=
  ∀ (Q : Value → Shared → Prop) (E : Value → Shared → Prop) (s : Shared), s.heap = h → (∀ v s', Rest s s' → s'.heap = h → P v → Q v s') → wpAny (model prog w) A (eval e env) Q E s
/-- the heap may grow -/
def EvX (e : Expr) (R : Value → Heap → Prop) : Prop :=
  ∀ (Q : Value → Shared → Prop) (E : Value → Shared → Prop) (s : Shared), s.heap = h → (∀ v s', Rest s s' → Ext h s'.heap → R v s'.heap → Q v s') → wpAny (model prog w) A (eval e env) Q E s
def EvT (e : Expr) (b : Bool) : Prop :=
  ∀ (Q : Bool → Shared → Prop) (E : Value → Shared → Prop) (s : Shared), s.heap = h → (∀ s', Rest s s' → s'.heap = h → Q b s') → wpAny (model prog w) A (isTrue e env (eval e env)) Q E s
end

section
variable {prog : Program} {w : World} {A : Around} {env : Env} {h : Heap}

theorem EvP.mono {e : Expr} {P P' : Value → Prop} (x : EvP prog w A env h e P) (k : ∀ v, P v → P' v) : EvP prog w A env h e P' :=
  fun Q E s hs hQ => x Q E s hs fun v s' r e p => hQ v s' r e (k v p)
theorem EvP.x {e : Expr} {P : Value → Prop} (x : EvP prog w A env h e P) : EvX prog w A env h e (fun v h' => P v ∧ h' = h) :=
  fun Q E s hs hQ => x Q E s hs fun v s' r e p => hQ v s' r (by rw [e]; exact fun _ _ e => e) ⟨p, e⟩
theorem EvX.mono {e : Expr} {R R' : Value → Heap → Prop} (x : EvX prog w A env h e R) (k : ∀ v h', Ext h h' → R v h' → R' v h') : EvX prog w A env h e R' :=
  fun Q E s hs hQ => x Q E s hs fun v s' r e p => hQ v s' r e (k v _ e p)

theorem EvP.loc {x : Str} {pos : Pos} {m : Str → Option Value} {v : Value} {P : Value → Prop} (hn : h.Ns env.locals m) (hv : m x = some v) (hP : P v)
    (hk : env.scope.kind = .function := by rfl) (hl : env.kindOf x = some .local := by rfl) (hd : (x == ("__debug__" : Str)) = false := by decide) :
    EvP prog w A env h (.Name x pos) P :=
  fun _ _ s hs hQ => wpAny_Name (wpAny_loadName_local hk hl (hs ▸ hn) hv (hQ v s .rfl' hs hP)) hd
theorem EvP.lit {i : Int} {k : Nat} {pos : Pos} : EvP prog w A env h (.Constant (.int i) k pos) (IsI i) :=
  fun _ _ _ hs hQ => wpAny_Constant_int (hQ _ _ ⟨rfl, rfl, rfl⟩ hs ⟨_, rfl⟩)
theorem EvP.litNone {k : Nat} {pos : Pos} : EvP prog w A env h (.Constant .none k pos) (Is .none) :=
  fun _ _ _ hs hQ => wpAny_pure (a := Value.none) (hQ _ _ .rfl' hs rfl)
theorem EvP.str {x : Str} {k : Nat} {pos : Pos} : EvP prog w A env h (.Constant (.str x) k pos) (IsS x) :=
  fun _ _ _ hs hQ => Calls.Constant_str (hQ _ _ ⟨rfl, rfl, rfl⟩ hs ⟨_, rfl⟩)
/-- a global of the top -/
theorem EvP.glob {x : Str} {pos : Pos} {mg : Str → Option Value} {v : Value} {P : Value → Prop} (hn : h.Ns mainGlobals mg) (hv : mg x = some v) (hP : P v)
    (hk : env.scope.kind = .function := by rfl) (hl : env.kindOf x = some .globalImplicit := by rfl) (hg : env.globals = mainGlobals := by rfl) (hd : (x == ("__debug__" : Str)) = false := by decide) :
    EvP prog w A env h (.Name x pos) P :=
  fun _ _ s hs hQ => Calls.Name_function_global hk hl (Calls.loadGlobal_global (by rw [hg, hs]; exact hn) hv (hQ v s .rfl' hs hP)) hd
theorem EvP.bltin {x : Str} {pos : Pos} {mg mb : Str → Option Value} {v : Value} {P : Value → Prop} (hn : h.Ns mainGlobals mg) (hm : mg x = Option.none) (hb : h.Ns builtinsNs mb) (hv : mb x = some v) (hP : P v)
    (hk : env.scope.kind = .function := by rfl) (hl : env.kindOf x = some .globalImplicit := by rfl) (hg : env.globals = mainGlobals := by rfl) (hbi : env.builtins = builtinsNs := by rfl) (hd : (x == ("__debug__" : Str)) = false := by decide) :
    EvP prog w A env h (.Name x pos) P :=
  fun _ _ s hs hQ => Calls.Name_function_global hk hl (Calls.loadGlobal_builtin (by rw [hg, hs]; exact hn) hm (by rw [hbi, hs]; exact hb) hv (hQ v s .rfl' hs hP)) hd
theorem EvP.bt {x : Str} {pos : Pos} {mg mb : Str → Option Value} {v : Value} (G : Grd mg mb h) (hm : mg x = Option.none) (hv : mb x = some v)
    (hk : env.scope.kind = .function := by rfl) (hl : env.kindOf x = some .globalImplicit := by rfl) (hg : env.globals = mainGlobals := by rfl) (hbi : env.builtins = builtinsNs := by rfl) (hd : (x == ("__debug__" : Str)) = false := by decide) :
    EvP prog w A env h (.Name x pos) (Is v) := EvP.bltin G.g hm G.b hv rfl hk hl hg hbi hd

theorem EvP.bin {l r : Expr} {op : Operator} {pos : Pos} {a b c : Int} (hl : EvP prog w A env h l (IsI a)) (hr : EvP prog w A env h r (IsI b))
    (hop : ∀ (t u : Tok) (Q : Value → Shared → Prop) (E : Value → Shared → Prop) (s : Shared), (∀ v s', Rest s s' → s'.heap = s.heap → IsI c v → Q v s') → wpAny (model prog w) A (binaryOp op (.int a t) (.int b u)) Q E s) :
    EvP prog w A env h (.BinOp l op r pos) (IsI c) := by
  intro Q E s hs hQ
  refine wpAny_BinOp (hl _ _ s hs ?_)
  rintro _ s₁ r₁ e₁ ⟨t, rfl⟩
  refine hr _ _ _ e₁ ?_
  rintro _ s₂ r₂ e₂ ⟨u, rfl⟩
  exact hop t u Q E _ fun v s' r' e' p => hQ v s' (r₁.trans' (r₂.trans' r')) (e'.trans e₂) p
theorem EvP.add {l r : Expr} {pos : Pos} {a b : Int} (hl : EvP prog w A env h l (IsI a)) (hr : EvP prog w A env h r (IsI b)) : EvP prog w A env h (.BinOp l .Add r pos) (IsI (a + b)) :=
  hl.bin hr fun _ _ _ _ _ hQ => PyProof.Rows.add_int (hQ _ _ ⟨rfl, rfl, rfl⟩ rfl ⟨_, rfl⟩)
theorem EvP.sub {l r : Expr} {pos : Pos} {a b : Int} (hl : EvP prog w A env h l (IsI a)) (hr : EvP prog w A env h r (IsI b)) : EvP prog w A env h (.BinOp l .Sub r pos) (IsI (a - b)) :=
  hl.bin hr fun _ _ _ _ _ hQ => PyProof.Rows.sub_int (hQ _ _ ⟨rfl, rfl, rfl⟩ rfl ⟨_, rfl⟩)
theorem EvP.fdiv {l r : Expr} {pos : Pos} {a b : Int} (hl : EvP prog w A env h l (IsI a)) (hr : EvP prog w A env h r (IsI b)) (hb : b ≠ 0) (hs : b.natAbs < 1073741824) : EvP prog w A env h (.BinOp l .FloorDiv r pos) (IsI (a.fdiv b)) :=
  hl.bin hr fun _ _ _ _ _ hQ => PyProof.Rows.floordiv_int hb (hQ _ _ ⟨rfl, rfl, rfl⟩ rfl ⟨_, rfl⟩) (.inl (PyProof.noPylong_small hs))
theorem EvP.fmod {l r : Expr} {pos : Pos} {a b : Int} (hl : EvP prog w A env h l (IsI a)) (hr : EvP prog w A env h r (IsI b)) (hb : b ≠ 0) : EvP prog w A env h (.BinOp l .Mod r pos) (IsI (a.fmod b)) :=
  hl.bin hr fun _ _ _ _ _ hQ => PyProof.Rows.mod_int' hb (hQ _ _ ⟨rfl, rfl, rfl⟩ rfl ⟨_, rfl⟩)
theorem EvP.pow {l r : Expr} {pos : Pos} {a b : Int} (hl : EvP prog w A env h l (IsI a)) (hr : EvP prog w A env h r (IsI b)) (h0 : 0 ≤ b) (h1 : b ≤ 1000000) (ha : a.natAbs < 2 ^ 64) : EvP prog w A env h (.BinOp l .Pow r pos) (IsI (a ^ b.toNat)) :=
  hl.bin hr fun _ _ _ _ _ hQ => PyProof.Rows.pow_int_small h0 h1 ha (hQ _ _ ⟨rfl, rfl, rfl⟩ rfl ⟨_, rfl⟩)

/-- a comparison as a test -/
theorem EvT.cmp {l r : Expr} {op : CmpOp} {pos : Pos} {P P' : Value → Prop} {b : Bool} (hl : EvP prog w A env h l P) (hr : EvP prog w A env h r P')
    (hop : ∀ (v u : Value) (Q : Value → Shared → Prop) (E : Value → Shared → Prop) (s : Shared), s.heap = h → P v → P' u → (∀ s', Rest s s' → s'.heap = h → Q (.bool b) s') → wpAny (model prog w) A (compareOp op v u) Q E s)
    (hm : behindInMarks op r = false := by with_unfolding_all rfl) :
    EvT prog w A env h (.Compare l [op] [r] pos) b := by
  intro Q E s hs hQ
  refine wpAny_isTrue_Compare1 (hl _ _ s hs fun v s₁ r₁ e₁ p => hr _ _ _ e₁ fun u s₂ r₂ e₂ p' => hop v u _ _ _ e₂ p p' fun s₃ r₃ e₃ => wpAny_truthy_bool (hQ s₃ (r₁.trans' (r₂.trans' r₃)) e₃)) hm
theorem EvT.eq {l r : Expr} {pos : Pos} {a b : Int} (hl : EvP prog w A env h l (IsI a)) (hr : EvP prog w A env h r (IsI b)) (hm : behindInMarks .Eq r = false := by with_unfolding_all rfl) : EvT prog w A env h (.Compare l [.Eq] [r] pos) (a == b) :=
  EvT.cmp hl hr (by rintro _ _ Q E s hs ⟨t, rfl⟩ ⟨u, rfl⟩ hQ; exact PyProof.Rows.eq_int (hQ s .rfl' hs)) hm
theorem EvT.gt {l r : Expr} {pos : Pos} {a b : Int} (hl : EvP prog w A env h l (IsI a)) (hr : EvP prog w A env h r (IsI b)) (hm : behindInMarks .Gt r = false := by with_unfolding_all rfl) : EvT prog w A env h (.Compare l [.Gt] [r] pos) (decide (b < a)) :=
  EvT.cmp hl hr (by rintro _ _ Q E s hs ⟨t, rfl⟩ ⟨u, rfl⟩ hQ; exact PyProof.Rows.gt_int (hQ s .rfl' hs)) hm
theorem EvT.lt {l r : Expr} {pos : Pos} {a b : Int} (hl : EvP prog w A env h l (IsI a)) (hr : EvP prog w A env h r (IsI b)) (hm : behindInMarks .Lt r = false := by with_unfolding_all rfl) : EvT prog w A env h (.Compare l [.Lt] [r] pos) (decide (a < b)) :=
  EvT.cmp hl hr (by rintro _ _ Q E s hs ⟨t, rfl⟩ ⟨u, rfl⟩ hQ; exact PyProof.Rows.lt_int (hQ s .rfl' hs)) hm

/-- an item of a list -/
theorem EvP.item {value slice : Expr} {pos : Pos} {l : Addr} {items : Array Value} {k : Int} {x : Value} {P : Value → Prop} (hv : EvP prog w A env h value (Is (.ref l))) (hi : EvP prog w A env h slice (IsI k))
    (hl : h.IsList l items) (h0 : 0 ≤ k) (hfit : k < 2 ^ 63) (hx : items[k.toNat]? = some x) (hP : P x)
    (hs : ∀ u, subscripted slice false (.ref l) (.int k u) = operate [.ref l, .int k u] (getItem (.ref l) (.int k u)) := by intro _; with_unfolding_all rfl) :
    EvP prog w A env h (.Subscript value slice pos) P := by
  intro Q E s hs' hQ
  refine Subscript_ (hv _ _ s hs' ?_)
  rintro _ s₁ r₁ e₁ rfl
  refine hi _ _ _ e₁ ?_
  rintro _ s₂ r₂ e₂ ⟨u, rfl⟩
  have hl' : s₂.heap.IsList l items := e₂ ▸ hl
  exact tail_any hl'.typeIs slot_list_getitem.lookup (wpAny_getItem_list hl' h0 hfit hx (hQ x s₂ (r₁.trans' r₂) e₂ hP)) (hs u)

/-- len of a list -/
theorem EvP.len {e : Expr} {x : Str} {np pos : Pos} {l : Addr} {items : Array Value} (hf : EvP prog w A env h (.Name x np) (Is (.builtin "len"))) (he : EvP prog w A env h e (Is (.ref l)))
    (hl : h.IsList l items) (hfit : (items.size : Int) < 2 ^ 63) (hs : starEach [e] env = [(false, eval e env)] := by rfl) : EvP prog w A env h (.Call (.Name x np) [e] [] pos) (IsI items.size) := by
  intro Q E s hs' hQ
  refine Call_name1 hs (hf _ _ s hs' ?_)
  rintro _ s₁ r₁ e₁ rfl
  refine callWith_builtin1 (he _ _ _ e₁ ?_)
  rintro _ s₂ r₂ e₂ rfl
  have hl' : s₂.heap.IsList l items := e₂ ▸ hl
  exact call_len_list hl' hfit (hQ _ _ (r₁.trans' (r₂.trans' ⟨rfl, rfl, rfl⟩)) e₂ ⟨_, rfl⟩)
end

/- statements -/
section
variable {prog : Program} {w : World} {A : Around} {E : Value → Shared → Prop} {s : Shared} {env : Env} {h₀ : Heap} {m : Str → Option Value} {news : List (Addr × Obj)}

theorem store_ {x : Str} {v : Value} {Q : Unit → Shared → Prop} (S : Sta h₀ env.locals m news s.heap)
    (h : ∀ s', Rest s s' → Heap.SameBut env.locals s.heap s'.heap → Sta h₀ env.locals (upd m x v) news s'.heap → Q () s')
    (hl : env.kindOf x = some .local := by rfl) (hp : (env.scope.kind == .class || (env.scope.kind == .module && env.locals != env.globals)) = false := by rfl) :
    wpAny (model prog w) A (storeName env x v) Q E s :=
  wpAny_storeName_local hl S.fr.ns (fun _ hn hs => h _ ⟨rfl, rfl, rfl⟩ hs (S.set hn hs)) hp

theorem assign_ {x : Str} {xp pos : Pos} {e : Expr} {R : Value → Heap → Prop} {Q : Flow → Shared → Prop} (S : Sta h₀ env.locals m news s.heap) (he : EvX prog w A env s.heap e R)
    (h : ∀ v h₁ s', Rest s s' → Ext s.heap h₁ → R v h₁ → Heap.SameBut env.locals h₁ s'.heap → Sta h₀ env.locals (upd m x v) news s'.heap → Q .next s')
    (hs : swapsWith e (some (.Name x xp)) pos.line env = pure false := by rfl)
    (hl : env.kindOf x = some .local := by rfl) (hp : (env.scope.kind == .class || (env.scope.kind == .module && env.locals != env.globals)) = false := by rfl) :
    wpAny (model prog w) A (exec (.Assign [.Name x xp] e pos) env) Q E s := by
  refine wpAny_Assign_Name (he _ _ s rfl fun v s₁ r₁ hE hR => ?_) hs
  exact store_ (S.ext hE) (fun s₂ r₂ hs' S' => h v s₁.heap s₂ (r₁.trans' r₂) hE hR hs' S') hl hp

theorem assignP {x : Str} {xp pos : Pos} {e : Expr} {P : Value → Prop} {Q : Flow → Shared → Prop} (S : Sta h₀ env.locals m news s.heap) (he : EvP prog w A env s.heap e P)
    (h : ∀ v s', Rest s s' → P v → Sta h₀ env.locals (upd m x v) news s'.heap → Q .next s')
    (hs : swapsWith e (some (.Name x xp)) pos.line env = pure false := by rfl)
    (hl : env.kindOf x = some .local := by rfl) (hp : (env.scope.kind == .class || (env.scope.kind == .module && env.locals != env.globals)) = false := by rfl) :
    wpAny (model prog w) A (exec (.Assign [.Name x xp] e pos) env) Q E s :=
  assign_ S he.x (fun v _ s' r' _ r _ S' => h v s' r' r.1 S') hs hl hp

/-- x += e, ints -/
theorem augAdd {x : Str} {xp pos : Pos} {e : Expr} {a b : Int} {t : Tok} {Q : Flow → Shared → Prop} (S : Sta h₀ env.locals m news s.heap) (hx : m x = some (.int a t)) (he : EvP prog w A env s.heap e (IsI b))
    (h : ∀ u s', Rest s s' → Sta h₀ env.locals (upd m x (.int (a + b) u)) news s'.heap → Q .next s')
    (hk : env.scope.kind = .function := by rfl) (hl : env.kindOf x = some .local := by rfl) (hp : (env.scope.kind == .class || (env.scope.kind == .module && env.locals != env.globals)) = false := by rfl) :
    wpAny (model prog w) A (exec (.AugAssign (.Name x xp) .Add e pos) env) Q E s := by
  refine wpAny_AugAssign_Name (wpAny_loadName_local hk hl S.fr.ns hx (he _ _ s rfl ?_))
  rintro _ s₁ r₁ e₁ ⟨u, rfl⟩
  refine PyProof.Rows.iadd_int ?_
  have S' : Sta h₀ env.locals m news s₁.heap := e₁ ▸ S
  exact store_ (s := { s₁ with toks := s₁.toks + 1 }) S' (fun s₂ r₂ _ S₂ => h _ s₂ (r₁.trans' ⟨r₂.gens, r₂.os, r₂.drawn⟩) S₂) hl hp

theorem if_ {test : Expr} {body orelse : List Stmt} {pos : Pos} {b : Bool} {Q : Flow → Shared → Prop} (ht : EvT prog w A env s.heap test b)
    (h1 : b = true → ∀ s', Rest s s' → s'.heap = s.heap → wpAny (model prog w) A (execs body env) Q E s') (h2 : b = false → ∀ s', Rest s s' → s'.heap = s.heap → wpAny (model prog w) A (execs orelse env) Q E s') :
    wpAny (model prog w) A (exec (.If test body orelse pos) env) Q E s := by
  refine wpAny_If (ht _ _ s rfl fun s' r e => ?_)
  cases b with
  | true => simp only [if_true]; exact h1 rfl s' r e
  | false => simp only [Bool.false_eq_true, if_false]; exact h2 rfl s' r e
theorem return_ {e : Expr} {pos : Pos} {R : Value → Heap → Prop} {Q : Flow → Shared → Prop} (he : EvX prog w A env s.heap e R)
    (h : ∀ v s', Rest s s' → Ext s.heap s'.heap → R v s'.heap → Q (.ret v) s') : wpAny (model prog w) A (exec (.Return (some e) pos) env) Q E s :=
  wpAny_Return_some (he _ _ s rfl h)
end
end Mine
namespace Mine

section
variable {prog : Program} {w : World} {A : Around} {env : Env} {h : Heap}

/-- range(a, b) -/
theorem EvX.range2 {x : Str} {np pos : Pos} {e₁ e₂ : Expr} {a b : Int} (hf : EvP prog w A env h (.Name x np) (Is (.type "range"))) (h1 : EvP prog w A env h e₁ (IsI a)) (h2 : EvP prog w A env h e₂ (IsI b))
    (hs : starEach [e₁, e₂] env = [(false, eval e₁ env), (false, eval e₂ env)] := by rfl) :
    EvX prog w A env h (.Call (.Name x np) [e₁, e₂] [] pos) (fun v h' => ∃ r t u z, v = .ref r ∧ r = h.objs.size ∧ IsRange h' r a b 1 t u z ∧ h' = h.push { cls := .type "range", data := .fields #[.int a t, .int b u, .int 1 z] }) := by
  intro Q E s hs' hQ
  refine Call_Name2 (hf _ _ s hs' ?_) hs
  rintro _ s₁ r₁ e₁ rfl
  refine PyProof.Rows.callWith_type rfl (Calls.evalArgs_plain (Calls.spliced_cons (h1 _ _ _ e₁ ?_)))
  rintro _ s₂ r₂ e₂ ⟨t, rfl⟩
  refine Calls.spliced_cons (h2 _ _ _ e₂ ?_)
  rintro _ s₃ r₃ e₃ ⟨u, rfl⟩
  refine Calls.spliced_nil ?_
  subst e₃
  refine call_range_2 (hQ _ _ (r₁.trans' (r₂.trans' (r₃.trans' ⟨rfl, rfl, rfl⟩))) (fun b o e => Heap.get?_push_of_some _ e) ⟨_, t, u, _, rfl, rfl, IsRange.new _ _ _ _ _ _ _, rfl⟩)

theorem EvX.ifexp {test body orelse : Expr} {pos : Pos} {b : Bool} {R : Value → Heap → Prop} (ht : EvT prog w A env h test b) (h1 : b = true → EvX prog w A env h body R) (h2 : b = false → EvX prog w A env h orelse R) :
    EvX prog w A env h (.IfExp test body orelse pos) R := by
  intro Q E s hs hQ
  refine IfExp_ (ht _ _ s hs fun s' r e => ?_)
  cases b with
  | true => simp only [if_true]; exact h1 rfl _ _ s' e fun v s'' r' => hQ v s'' (r.trans' r')
  | false => simp only [Bool.false_eq_true, if_false]; exact h2 rfl _ _ s' e fun v s'' r' => hQ v s'' (r.trans' r')

/-- a def is entered -/
theorem enter {E : Value → Shared → Prop} {s : Shared} {mg mb : Str → Option Value} {d : DefRec} {f : Addr} {args : List Value} {Q : Value → Shared → Prop} (binds : List (Str × Value)) (hd : A.depth < recursionLimit) (G : Grd mg mb s.heap) (hf : FnAt d s.heap f)
    (h : ∀ code s₁, Rest s s₁ → Sta s.heap s.heap.objs.size (fun x => binds.reverse.lookup x) [] s₁.heap →
      wpAny (model prog w) (A.deeper (envOf d.name d.scope s.heap.objs.size f code)) (execs d.body (envOf d.name d.scope s.heap.objs.size f code)) (fun fl s' => Q (match fl with | .ret v => v | _ => .none) s') (fun _ _ => False) s₁)
    (hbind : ∀ pm code doc, bindArgs (docDef d.name d.params d.body d.scope pm code doc) ⟨args, []⟩ = pure binds := by intro _ _ _; rfl)
    (hloc : (binds.all fun x => decide (d.scope.names.lookup x.1 = some .local)) = true := by rfl)
    (hco : d.scope.isCoroutine = false := by rfl) (hgen : d.scope.isGenerator = false := by rfl) (hk : d.scope.kind = .function := by rfl) (hcell : ∀ x ∈ d.scope.names, x.2 ≠ .cell := by decide) :
    wpAny (model prog w) A (call (.ref f) args) Q E s := by
  obtain ⟨o, pm, code, doc, ho, hdat, hcd⟩ := hf
  refine wpAny_call (call_plain_ret hd ho hdat G.nolimit hcd (binds := binds) (hbind pm code doc) (locs hloc) (fun h₁ F => ?_) hco hgen hk hcell)
  exact h code _ ⟨rfl, rfl, rfl⟩ ⟨F, News.nil⟩

/-- a for over a range -/
theorem forRange {E : Value → Shared → Prop} {s : Shared} {h₀ : Heap} {m : Str → Option Value} {news : List (Addr × Obj)} {x : Str} {xp pos : Pos} {iter : Expr} {body : List Stmt} {Q : Flow → Shared → Prop} {a c : Int} {n : Nat}
    (S : Sta h₀ env.locals m news s.heap) (hh : A.handled = none) (G : Shared → Prop) (Gst : ∀ s s', Rest s s' → G s → G s') (hG : G s)
    (J : Nat → (Str → Option Value) → List (Addr × Obj) → Prop) (h0 : J 0 m news) (hadr : ∀ i m' news', J i m' news' → news'.map (·.1) = news.map (·.1))
    (hit : EvX prog w A env s.heap iter (fun v h' => ∃ r b t u z, v = .ref r ∧ IsRange h' r a b c t u z ∧ Builtin.Range.small a b c = true ∧ Builtin.Range.rangeSize a b c = (n : Int)))
    (turn : ∀ i t m' news' own s' E', i < n → J i m' news' → G s' → (∀ p ∈ own, ∀ q ∈ news', p.1 ≠ q.1) → Sta h₀ env.locals (upd m' x (.int (a + i * c) t)) (news' ++ own) s'.heap →
      wpAny (model prog w) A (execs body env) (fun f s'' => match f with
        | .next | .cont => ∃ m'' news'', J (i + 1) m'' news'' ∧ G s'' ∧ Sta h₀ env.locals m'' (news'' ++ own) s''.heap
        | .brk => Q .next s''
        | .ret v => Q (.ret v) s'') E' s')
    (done : ∀ m' news' s', J n m' news' → G s' → Sta h₀ env.locals m' news' s'.heap → Q .next s')
    (hs : ∀ x, foldedSetIterable iter env x = pure x := by intro _; rfl)
    (hl : env.kindOf x = some .local := by rfl) (hp : (env.scope.kind == .class || (env.scope.kind == .module && env.locals != env.globals)) = false := by rfl) :
    wpAny (model prog w) A (exec (.For (.Name x xp) iter body [] pos) env) Q E s := by
  refine wpAny_For (hit _ _ s rfl ?_) hs
  rintro v s₁ r₁ hE ⟨r, b, t, u, z, rfl, hr, hsm, hn⟩
  refine wpAny_pyIter_range hr hsm ?_
  rw [hn]
  have S₁ := (S.ext hE).push { cls := .type "range_iterator", data := .fields #[rawInt a, rawInt (n : Int), rawInt c] }
  generalize hI : s₁.heap.objs.size = I at S₁
  have hIadr : ∀ q ∈ news, I ≠ q.1 := fun q hq => by rw [← hI]; exact Nat.ne_of_gt ((S.ext hE).lt q hq)
  have hIadr' : ∀ i m' news', J i m' news' → ∀ q ∈ news', I ≠ q.1 := fun i m' news' hJ q hq => by
    have h1 : q.1 ∈ news.map (·.1) := (hadr i m' news' hJ) ▸ List.mem_map.mpr ⟨q, hq, rfl⟩
    obtain ⟨p, hp1, hp2⟩ := List.mem_map.mp h1
    rw [← hp2]; exact hIadr p hp1
  refine codeAny_forLoop (fun k s' => ∃ i m' news', k = n + 1 - i ∧ i ≤ n ∧ J i m' news' ∧ G s' ∧ Sta h₀ env.locals m' (news' ++ [(I, { cls := .type "range_iterator", data := .fields #[rawInt (a + i * c), rawInt ((n : Int) - i), rawInt c] })]) s'.heap) ?_ (n + 1)
    ⟨0, m, news, by omega, Nat.zero_le _, h0, Gst s _ (r₁.trans' ⟨rfl, rfl, rfl⟩) hG, ?_⟩
  · rintro k s' ⟨i, m', news', rfl, hi, hJ, hG', S'⟩
    have hget : IsRangeIter s'.heap I (a + i * c) ((n : Int) - i) c := S'.get (List.mem_append.mpr (.inr (List.mem_singleton.mpr rfl)))
    by_cases hlt : i < n
    · refine wpAny_pyNext_range_item hget (by omega) fun h₂ hit₂ hs₂ => ?_
      have S₂ := S'.change hs₂ hit₂ (fun p hp => (hIadr' i m' news' hJ p hp).symm) (fun p hp => by cases hp)
      refine wpAny_assign_Name (wpAny_storeName_local hl S₂.fr.ns (fun h₃ hn₃ hs₃ => ?_) hp)
      have S₃ := S₂.set hn₃ hs₃
      refine wpAny_mono (turn i _ m' news' _ _ _ hlt hJ (Gst s' _ ⟨rfl, rfl, rfl⟩ hG') ?_ S₃) (fun f s'' hf => ?_) fun _ _ e => e
      · intro p hp q hq
        rw [List.mem_singleton.mp hp]
        exact hIadr' i m' news' hJ q hq
      · have go : (∃ m'' news'', J (i + 1) m'' news'' ∧ G s'' ∧ Sta h₀ env.locals m'' (news'' ++ [(I, { cls := .type "range_iterator", data := .fields #[rawInt (a + i * c + c), rawInt ((n : Int) - i - 1), rawInt c] })]) s''.heap) →
            ∃ k', k' < n + 1 - i ∧ ∃ i' m' news', k' = n + 1 - i' ∧ i' ≤ n ∧ J i' m' news' ∧ G s'' ∧ Sta h₀ env.locals m' (news' ++ [(I, { cls := .type "range_iterator", data := .fields #[rawInt (a + (i' : Nat) * c), rawInt ((n : Int) - (i' : Nat)), rawInt c] })]) s''.heap := by
          rintro ⟨m'', news'', hJ', hG'', S''⟩
          have e1 : a + ((i + 1 : Nat) : Int) * c = a + (i : Int) * c + c := by push_cast; rw [Int.add_mul, Int.one_mul, Int.add_assoc]
          have e2 : (n : Int) - ((i + 1 : Nat) : Int) = (n : Int) - (i : Int) - 1 := by push_cast; omega
          exact ⟨n + 1 - (i + 1), by omega, i + 1, m'', news'', rfl, hlt, hJ', hG'', by rw [e1, e2]; exact S''⟩
        cases f with
        | next => exact go hf
        | cont => exact go hf
        | brk => exact hf
        | ret v => exact hf
    · have hin : i = n := by omega
      subst hin
      refine wpAny_pyNext_range_end hh hget (by omega) fun h₂ he₂ => wpAny_execs_nil ?_
      refine done m' news' _ hJ (Gst s' _ ⟨rfl, rfl, rfl⟩ hG') ?_
      have hI := S'.nw _ (List.mem_append.mpr (.inr (List.mem_singleton.mpr rfl)))
      refine ⟨⟨S'.fr.ns.extBut he₂ (Ne.symm hI.2.1), fun b o e => he₂ b o (fun q => by rw [q] at e; rw [hI.2.2] at e; cases e) (S'.fr.keep b o e), S'.fr.above⟩, fun p hp => ?_⟩
      have h1 := S'.nw p (List.mem_append.mpr (.inl hp))
      exact ⟨he₂ _ _ (hIadr' i m' news' hJ p hp).symm h1.1, h1.2⟩
  · have S₂ : Sta h₀ env.locals m (news ++ [(I, { cls := .type "range_iterator", data := .fields #[rawInt a, rawInt (n : Int), rawInt c] })]) (s₁.heap.push { cls := .type "range_iterator", data := .fields #[rawInt a, rawInt (n : Int), rawInt c] }) :=
      S₁.drop fun p hp => by rcases List.mem_append.mp hp with h | h; exact List.mem_cons_of_mem _ h; rw [List.mem_singleton.mp h]; exact List.mem_cons_self
    simpa using S₂
end
end Mine
namespace Mine
local macro_rules | `(tactic| walk_at "look") => `(tactic| first | assumption | exact upd_same _ _ _ | (refine (upd_other (by decide)).trans ?_; walk_at "look") | with_unfolding_all rfl)

def cutD : {d : DefRec // d = fnm (topSt 7)} := ⟨_, by conv => rhs; whnf⟩

def cutGo (room mask : Int) : Nat → List Int → Int → Int → Int → Option (Int × Int)
  | _, [], cost, rows, width => if room < width then none else some (cost, rows)
  | k, c :: cs, cost, rows, width =>
    if (mask.fdiv (2 ^ (k - 1))).fmod 2 = 1 then (if room < width then none else cutGo room mask (k + 1) cs (cost + (room - width) ^ 2) (rows + 1) c)
    else cutGo room mask (k + 1) cs cost rows (width + (1 + c))
def cutF (room mask : Int) : List Int → Option (Int × Int)
  | [] => none
  | c :: cs => cutGo room mask 1 cs 0 1 c

def CutVal (h : Heap) (v : Value) : Option (Int × Int) → Prop
  | none => v = .none
  | some (c, r) => ∃ a t u, v = .ref a ∧ IsTup h a #[.int c t, .int r u]

structure CutJ (room mask : Int) (l : Addr) (cs : List Int) (i : Nat) (m : Str → Option Value) (news : List (Addr × Obj)) : Prop where
  nw : news = []
  lc : m "cells" = some (.ref l)
  lr : ∃ t, m "room" = some (.int room t)
  lm : ∃ t, m "mask" = some (.int mask t)
  go : ∃ cost rows width t u z, m "cost" = some (.int cost t) ∧ m "rows" = some (.int rows u) ∧ m "width" = some (.int width z) ∧ 0 ≤ width ∧ width ≤ 1000 * (i + 1) ∧
    cutGo room mask (i + 1) (cs.drop (i + 1)) cost rows width = cutF room mask cs

theorem newTuple_ {prog : Program} {w : World} {A : Around} {E : Value → Shared → Prop} {s : Shared} {vs : List Value} {Q : Value → Shared → Prop}
    (h : Q (.ref s.heap.objs.size) { s with heap := s.heap.push { cls := .type "tuple", data := .seq vs.toArray } }) (hsz : vs.length ≤ sizeLine := by size_fits) :
    wpAny (model prog w) A (newTuple vs) Q E s := wpAny_newObj_type h (by show vs.toArray.size ≤ sizeLine; rw [List.size_toArray]; exact hsz)

theorem EvX.pair {prog : Program} {w : World} {A : Around} {env : Env} {h : Heap} {e₁ e₂ : Expr} {k : Nat} {pos : Pos} {P P' : Value → Prop} (h1 : EvP prog w A env h e₁ P) (h2 : EvP prog w A env h e₂ P')
    (hs : starEach [e₁, e₂] env = [(false, eval e₁ env), (false, eval e₂ env)] := by rfl) :
    EvX prog w A env h (.Tuple [e₁, e₂] k pos) (fun v h' => ∃ v₁ v₂, P v₁ ∧ P' v₂ ∧ v = .ref h.objs.size ∧ h' = h.push { cls := .type "tuple", data := .seq #[v₁, v₂] }) := by
  intro Q E s hs' hQ
  refine Tuple_ ?_
  rw [hs]
  refine Calls.spliced_cons (h1 _ _ _ hs' ?_)
  intro v₁ s₁ r₁ e₁ p1
  refine Calls.spliced_cons (h2 _ _ _ e₁ ?_)
  intro v₂ s₂ r₂ e₂ p2
  refine Calls.spliced_nil (newTuple_ ?_)
  subst e₂
  exact hQ _ _ (r₁.trans' (r₂.trans' ⟨rfl, rfl, rfl⟩)) (fun b o e => Heap.get?_push_of_some _ e) ⟨v₁, v₂, p1, p2, rfl, rfl⟩

theorem drop_get {cs : List Int} {i : Nat} (h : i < cs.length) : cs.drop i = cs[i] :: cs.drop (i + 1) := List.drop_eq_getElem_cons h

theorem two_ne (i : Nat) : (2 : Int) ^ i ≠ 0 := Int.ne_of_gt (Int.pow_pos (by omega))
theorem two_small {i : Nat} (h : i ≤ 16) : ((2 : Int) ^ i).natAbs < 1073741824 := by
  rw [Int.natAbs_pow]
  exact Nat.lt_of_le_of_lt (Nat.pow_le_pow_right (by decide) h) (by decide)
section
variable {prog : Program} {w : World} {A : Around} {E : Value → Shared → Prop} {s : Shared} {mg mb : Str → Option Value} {f l : Addr} {vs : List Value} {cs : List Int} {room mask : Int} {t₁ t₂ : Tok} {Q : Value → Shared → Prop}

theorem cut_spec (hh : A.handled = none) (hd : A.depth < recursionLimit) (Gr : Grd mg mb s.heap) (hm1 : mg "range" = none) (hm2 : mg "len" = none) (hb1 : mb "range" = some (.type "range")) (hb2 : mb "len" = some (.builtin "len"))
    (hf : FnAt cutD.1 s.heap f) (hl : s.heap.IsList l vs.toArray) (hi : IntsAre vs cs) (hne : cs ≠ []) (hlen : cs.length ≤ 16) (hcs : ∀ c ∈ cs, 0 ≤ c ∧ c ≤ 900) (hr : 0 ≤ room ∧ room ≤ 1000)
    (hQ : ∀ v s', Rest s s' → Ext s.heap s'.heap → CutVal s'.heap v (cutF room mask cs) → (∀ a, v = .ref a → s.heap.get? a = none) → Q v s') :
    wpAny (model prog w) A (call (.ref f) [.ref l, .int room t₁, .int mask t₂]) Q E s := by
  obtain ⟨c0, cr, rfl⟩ := List.exists_cons_of_ne_nil hne
  have hsz : vs.length = (c0 :: cr).length := hi.length
  have hget : ∀ i (hi' : i < (c0 :: cr).length), ∃ t, vs[i]? = some (.int (c0 :: cr)[i] t) := fun i hi' => hi.get i _ (by simp [hi'])
  refine enter [("cells", .ref l), ("room", .int room t₁), ("mask", .int mask t₂)] hd Gr hf ?_
  intro code s₀ R₀ S
  -- cost = 0
  refine wpAny_execs_cons (assignP S EvP.lit ?_)
  rintro v s₂ R₂ ⟨t, rfl⟩ S₂
  refine wpAny_execs_cons (assignP S₂ EvP.lit ?_)
  rintro v s₃ R₃ ⟨u, rfl⟩ S₃
  obtain ⟨t0, ht0⟩ := hget 0 (by simp)
  refine wpAny_execs_cons (assignP S₃ (EvP.item (l := l) (items := vs.toArray) (k := 0) (EvP.loc S₃.fr.ns (by walk_at "look") rfl) EvP.lit (hl.at fun o e => S₃.old e) (by omega) (by omega) (by simpa using ht0) (P := IsI c0) ⟨t0, rfl⟩) ?_)
  rintro v s₄ R₄ ⟨z, rfl⟩ S₄
  have R₄ := R₀.trans' (R₂.trans' (R₃.trans' R₄))
  clear S₂ S₃ R₂ R₃ R₀ S
  -- the loop
  have hsz' : (vs.toArray.size : Int) = ((c0 :: cr).length : Int) := by rw [List.size_toArray, hsz]
  refine wpAny_execs_cons (forRange S₄ hh (fun s' => Rest s s') (fun _ _ r h => h.trans' r) R₄
    (n := cr.length) (a := 1) (c := 1) (CutJ room mask l (c0 :: cr)) ?_ ?_ ?_ ?_ ?_)
  · exact ⟨rfl, by walk_at "look", ⟨_, by walk_at "look"⟩, ⟨_, by walk_at "look"⟩, 0, 1, c0, t, u, z, by walk_at "look", by walk_at "look", by walk_at "look", (hcs c0 (by simp)).1, by have := (hcs c0 (by simp)).2; omega, by simp [cutF]⟩
  · intro i m' news' hJ; rw [hJ.nw]
  · have G₄ := Gr.keeps S₄.fr.keep
    refine (EvX.range2 (EvP.bt G₄ hm1 hb1) EvP.lit (EvP.len (EvP.bt G₄ hm2 hb2) (EvP.loc S₄.fr.ns (by walk_at "look") rfl) (hl.at fun o e => S₄.old e) (by rw [hsz']; omega))).mono ?_
    rintro v h' _ ⟨r, t, u, z, rfl, _, hR, _⟩
    refine ⟨r, _, t, u, z, rfl, hR, small_one (by omega) (by omega) (by rw [hsz']; omega) (by rw [hsz']; omega), ?_⟩
    rw [rangeSize_one, hsz']
    simp only [List.length_cons]
    split <;> push_cast <;> omega
  · -- a turn
    rintro i t' m' news' own s' E' hi' hJ R' hoff S'
    obtain ⟨rfl, lc, ⟨tr, lr⟩, ⟨tm, lm⟩, cost, rows, width, tc, tu, tz, lco, lro, lwi, hw0, hw1, hgo⟩ := hJ
    have hiL : i + 1 < (c0 :: cr).length := by simp; omega
    obtain ⟨tg, htg⟩ := hget (i + 1) hiL
    rw [drop_get hiL] at hgo
    have hk : (1 + (i : Int) * 1 - 1).toNat = i := by omega
    have hcb := hcs _ (List.getElem_mem hiL)
    have S' : Sta s.heap (envOf cutD.1.name cutD.1.scope s.heap.objs.size f code).locals (upd m' "k" (.int (1 + (i : Int) * 1) t')) own s'.heap := S'
    refine wpAny_execs_cons (if_ (b := ((mask.fdiv (2 ^ (1 + (i : Int) * 1 - 1).toNat)).fmod 2 == 1)) ?_ ?_ ?_)
    · refine EvT.eq (EvP.fmod (EvP.fdiv (EvP.loc S'.fr.ns (by walk_at "look") ⟨_, rfl⟩) (EvP.pow EvP.lit (EvP.sub (EvP.loc S'.fr.ns (by walk_at "look") ⟨_, rfl⟩) EvP.lit) (by omega) (by omega) (by decide)) ?_ ?_) EvP.lit (by decide)) EvP.lit
      · rw [hk]; exact two_ne i
      · rw [hk]; exact two_small (by simp at hlen; omega)
    · intro hb s₅ R₅ e₅
      rw [← e₅] at S'
      simp only [beq_iff_eq] at hb
      rw [hk] at hb
      simp only [cutGo, Nat.add_sub_cancel, hb, if_true] at hgo
      refine wpAny_execs_cons (if_ (b := decide (room < width)) (EvT.gt (EvP.loc S'.fr.ns (by walk_at "look") ⟨_, rfl⟩) (EvP.loc S'.fr.ns (by walk_at "look") ⟨_, rfl⟩)) ?_ ?_)
      · intro hb2 s₆ R₆ e₆
        rw [← e₆] at S'
        have hb2 := of_decide_eq_true hb2
        rw [if_pos hb2] at hgo
        refine wpAny_execs_cons (return_ EvP.litNone.x ?_)
        rintro v s₇ R₇ hE ⟨rfl, _⟩
        refine hQ _ _ (R'.trans' (R₅.trans' (R₆.trans' R₇))) (fun b o e => hE _ _ (S'.old e)) ?_ (by intro a e; cases e)
        rw [← hgo]; rfl
      · intro hb2 s₆ R₆ e₆
        rw [← e₆] at S'
        have hb2 := of_decide_eq_false hb2
        rw [if_neg hb2] at hgo
        refine wpAny_execs_nil ?_
        refine wpAny_execs_cons (augAdd S' (by walk_at "look") (EvP.pow (EvP.sub (EvP.loc S'.fr.ns (by walk_at "look") ⟨_, rfl⟩) (EvP.loc S'.fr.ns (by walk_at "look") ⟨_, rfl⟩)) EvP.lit (by omega) (by omega) (by omega)) ?_)
        intro ta sa Ra Sa
        refine wpAny_execs_cons (augAdd Sa (by walk_at "look") EvP.lit ?_)
        intro tb sb Rb Sb
        refine wpAny_execs_cons (assignP Sb (EvP.item (l := l) (items := vs.toArray) (k := 1 + (i : Int) * 1) (EvP.loc Sb.fr.ns (by walk_at "look") rfl) (EvP.loc Sb.fr.ns (by walk_at "look") ⟨_, rfl⟩) (hl.at fun o e => Sb.old e) (by omega) (by omega)
          (by rw [show (1 + (i : Int) * 1).toNat = i + 1 by omega]; simpa using htg) (P := IsI (c0 :: cr)[i + 1]) ⟨tg, rfl⟩) ?_)
        rintro v sc Rc ⟨tv, rfl⟩ Sc
        refine wpAny_execs_nil ?_
        refine wpAny_execs_nil ?_
        exact ⟨_, [], ⟨rfl, by walk_at "look", ⟨_, by walk_at "look"⟩, ⟨_, by walk_at "look"⟩, _, _, _, _, _, _, by walk_at "look", by walk_at "look", by walk_at "look", hcb.1, by push_cast; omega, hgo⟩,
          R'.trans' (R₅.trans' (R₆.trans' (Ra.trans' (Rb.trans' Rc)))), Sc⟩
    · intro hb s₅ R₅ e₅
      rw [← e₅] at S'
      simp only [beq_eq_false_iff_ne] at hb
      rw [hk] at hb
      simp only [cutGo, Nat.add_sub_cancel, hb, if_false] at hgo
      refine wpAny_execs_cons (augAdd S' (by walk_at "look") (EvP.add EvP.lit (EvP.item (l := l) (items := vs.toArray) (k := 1 + (i : Int) * 1) (EvP.loc S'.fr.ns (by walk_at "look") rfl) (EvP.loc S'.fr.ns (by walk_at "look") ⟨_, rfl⟩) (hl.at fun o e => S'.old e) (by omega) (by omega)
        (by rw [show (1 + (i : Int) * 1).toNat = i + 1 by omega]; simpa using htg) (P := IsI (c0 :: cr)[i + 1]) ⟨tg, rfl⟩)) ?_)
      intro ta sa Ra Sa
      refine wpAny_execs_nil ?_
      refine wpAny_execs_nil ?_
      exact ⟨_, [], ⟨rfl, by walk_at "look", ⟨_, by walk_at "look"⟩, ⟨_, by walk_at "look"⟩, _, _, _, _, _, _, by walk_at "look", by walk_at "look", by walk_at "look", by omega, by push_cast; omega, hgo⟩,
          R'.trans' (R₅.trans' Ra), Sa⟩
  · rintro m' news' s' hJ R' S'
    obtain ⟨rfl, lc, ⟨tr, lr⟩, ⟨tm, lm⟩, cost, rows, width, tc, tu, tz, lco, lro, lwi, hw0, hw1, hgo⟩ := hJ
    rw [List.drop_of_length_le (by simp)] at hgo
    simp only [cutGo] at hgo
    refine wpAny_execs_cons (return_ (EvX.ifexp (b := decide (room < width)) (R := fun v h' => CutVal h' v (cutF room mask (c0 :: cr)) ∧ ∀ a, v = .ref a → s.heap.get? a = none) (EvT.gt (EvP.loc S'.fr.ns (by walk_at "look") ⟨_, rfl⟩) (EvP.loc S'.fr.ns (by walk_at "look") ⟨_, rfl⟩)) ?_ ?_) ?_)
    · intro hb
      rw [if_pos (of_decide_eq_true hb)] at hgo
      refine EvP.litNone.x.mono ?_
      rintro v h' _ ⟨rfl, _⟩
      refine ⟨?_, by intro a e; cases e⟩
      rw [← hgo]; rfl
    · intro hb
      rw [if_neg (of_decide_eq_false hb)] at hgo
      refine (EvX.pair (EvP.loc S'.fr.ns (by walk_at "look") (P := IsI cost) ⟨_, rfl⟩) (EvP.loc S'.fr.ns (by walk_at "look") (P := IsI rows) ⟨_, rfl⟩)).mono ?_
      rintro v h' _ ⟨_, _, ⟨ta, rfl⟩, ⟨tb, rfl⟩, rfl, rfl⟩
      refine ⟨?_, ?_⟩
      · rw [← hgo]
        exact ⟨_, ta, tb, rfl, _, Heap.get?_push_size _ rfl, rfl, _, rfl⟩
      · intro a ea
        cases ea
        cases q : s.heap.get? s'.heap.objs.size with
        | none => rfl
        | some o =>
          exfalso
          have h1 := S'.old q
          cases h2 : s'.heap.get? s'.heap.objs.size with
          | none => rw [h2] at h1; cases h1
          | some o => exact absurd (Heap.lt_size h2) (Nat.lt_irrefl _)
    · rintro v s'' R'' hE ⟨hv, hfr⟩
      exact hQ _ _ (R'.trans' R'') (fun b o e => hE _ _ (S'.old e)) hv hfr
end
end Mine
namespace Mine

section
variable {prog : Program} {w : World} {A : Around} {env : Env} {h : Heap}

/-- a source: what is walked, its number of items, what they are -/
def Src (prog : Program) (w : World) (A : Around) (env : Env) (h : Heap) (iter : Expr) (n : Nat) (P : Nat → Value → Prop) : Prop :=
  ∀ (Q : Value → Shared → Prop) (E : Value → Shared → Prop) (s : Shared), s.heap = h →
    (∀ I fp wr St s', Rest s s' → Ext h s'.heap → Walks prog w A I fp wr n P St → St 0 s'.heap → (∀ b ∈ fp, b < s'.heap.objs.size) → (∀ b ∈ wr, h.get? b = none) → (∀ i h, St i h → ∀ b ∈ wr, ∃ o, h.get? b = some o) → Q (.ref I) s') →
    wpAny (model prog w) A (eval iter env) (fun xv s₁ => wpAny (model prog w) A (pyIter xv) Q E s₁) E s

theorem get_size (h : Heap) : h.get? h.objs.size = none := by
  cases e : h.get? h.objs.size with
  | none => rfl
  | some o => exact absurd (Heap.lt_size e) (Nat.lt_irrefl _)
theorem get_big {h : Heap} {a : Addr} (ha : h.objs.size ≤ a) : h.get? a = none := by
  cases e : h.get? a with
  | none => rfl
  | some o => exact absurd (Heap.lt_size e) (Nat.not_lt.mpr ha)

theorem Src.list {iter : Expr} {l : Addr} {items : Array Value} (hh : A.handled = none) (he : EvP prog w A env h iter (Is (.ref l))) (hl : h.IsList l items) : Src prog w A env h iter items.size (fun i v => items[i]? = some v) := by
  intro Q E s hs hQ
  refine he _ _ s hs ?_
  rintro _ s₁ r₁ e₁ rfl
  have hl' : s₁.heap.IsList l items := e₁ ▸ hl
  have hlt : l < s₁.heap.objs.size := by obtain ⟨_, e, _⟩ := hl'; exact Heap.lt_size e
  refine wpAny_pyIter_list hl' (hQ _ _ _ _ _ ⟨r₁.gens, r₁.os, r₁.drawn⟩ (by rw [← e₁]; exact Ext.pushed _) (Walks.list hh s₁.heap.objs.size l (Nat.ne_of_lt hlt) items) ⟨⟨_, Heap.get?_push_size _ rfl, rfl, rfl⟩, hl'.push _⟩ ?_ ?_ ?_)
  · intro b hb
    show b < (s₁.heap.push _).objs.size
    rw [Heap.size_push]
    rcases List.mem_cons.mp hb with rfl | hb
    · exact Nat.lt_succ_self _
    · rw [List.mem_singleton.mp hb]; exact Nat.lt_succ_of_lt hlt
  · intro b hb
    rw [List.mem_singleton.mp hb, ← e₁]; exact get_size _
  · rintro i h st b hb
    rw [List.mem_singleton.mp hb]
    obtain ⟨⟨o, e, _⟩, _⟩ := st
    exact ⟨o, e⟩

theorem Src.str {iter : Expr} {x : Str} (hh : A.handled = none) (he : EvP prog w A env h iter (IsS x)) : Src prog w A env h iter x.cps.size (SignAt x) := by
  intro Q E s hs hQ
  refine he _ _ s hs ?_
  rintro _ s₁ r₁ e₁ ⟨t, rfl⟩
  have fin : ∀ (o : Obj) (St : Nat → Heap → Prop), Walks prog w A s₁.heap.objs.size [s₁.heap.objs.size] [s₁.heap.objs.size] x.cps.size (SignAt x) St → St 0 (s₁.heap.push o) → (∀ i h, St i h → ∃ o, h.get? s₁.heap.objs.size = some o) →
      Q (.ref s₁.heap.objs.size) { s₁ with heap := s₁.heap.push o } := fun o St W st lv => by
    refine hQ _ _ _ _ _ ⟨r₁.gens, r₁.os, r₁.drawn⟩ (by rw [← e₁]; exact Ext.pushed _) W st ?_ ?_ ?_
    · intro b hb
      rw [List.mem_singleton.mp hb]
      show s₁.heap.objs.size < (s₁.heap.push _).objs.size
      rw [Heap.size_push]; exact Nat.lt_succ_self _
    · intro b hb
      rw [List.mem_singleton.mp hb, ← e₁]; exact get_size _
    · intro i h st b hb
      rw [List.mem_singleton.mp hb]; exact lv i h st
  cases ha : x.cps.all (· < 128)
  · exact wpAny_pyIter_wide ha (fin _ _ (Walks.strWide hh _ x t) ⟨_, Heap.get?_push_size _ rfl, rfl, rfl⟩ fun i h st => by obtain ⟨o, e, _⟩ := st; exact ⟨o, e⟩)
  · exact wpAny_pyIter_ascii ha (fin _ _ (Walks.strAscii hh _ x t) ⟨_, Heap.get?_push_size _ rfl, rfl, rfl⟩ fun i h st => by obtain ⟨o, e, _⟩ := st; exact ⟨o, e⟩)

/-- all but the places X kept -/
def YK (X : List Addr) (h h' : Heap) : Prop := ∀ b o, b ∉ X → h.get? b = some o → h'.get? b = some o
theorem YK.trans' {X : List Addr} {h h' h'' : Heap} (x : YK X h h') (y : YK X h' h'') : YK X h h'' := fun b o h1 e => y b o h1 (x b o h1 e)
theorem YK.of_ext {X : List Addr} {h h' : Heap} (x : Ext h h') : YK X h h' := fun b o _ e => x b o e
theorem YK.of_same {X : List Addr} {a : Addr} {h h' : Heap} (x : Heap.SameBut a h h') (ha : a ∈ X) : YK X h h' := fun b o hb e => (x.2 b (fun q => hb (q ▸ ha))).trans e

/-- what is asked of a comprehension's element and tests -/
structure Turns (prog : Program) (w : World) (A : Around) (env : Env) (h : Heap) (scope : Scope) (cl : List (Str × Addr)) (x : Str) (ifs : List Expr) (elt : Expr) (P : Nat → Value → Prop) (p : Value → Bool)
    (Y : Value → Value → Heap → Prop) : Prop where
  tests : ∀ C i v s m E, P i v → s.heap.Ns C m → m x = some v → Ext h s.heap →
    wpAny (model prog w) A (forIn ifs true fun c r => if r = true then do let ok ← isTrue c (compEnvC scope cl C env) (eval c (compEnvC scope cl C env)); pure (ForInStep.yield ok) else pure (ForInStep.yield r))
      (fun ok s₄ => ok = p v ∧ Rest s s₄ ∧ Ext s.heap s₄.heap) E s
  elt : ∀ X C i v s m E, P i v → p v = true → s.heap.Ns C m → m x = some v → Ext h s.heap → (∀ b ∈ X, ∃ o, s.heap.get? b = some o) →
    wpAny (model prog w) A (eval elt (compEnvC scope cl C env)) (fun y s₄ => Rest s s₄ ∧ Ext s.heap s₄.heap ∧ ∀ h', YK X s₄.heap h' → Y v y h') E s

theorem comp_loop {elt iter : Expr} {x : Str} {px : Pos} {ifs : List Expr} {scope : Scope} {cl : List (Str × Addr)} {pos : Pos} {s : Shared} {I L C D : Addr} {fp wr : List Addr} {n : Nat} {P : Nat → Value → Prop}
    {St : Nat → Heap → Prop} {R : Result → Shared → Prop} {m₀ : Str → Option Value} (W : Walks prog w A I fp wr n P St) (hsz : n ≤ sizeLine) (p : Value → Bool) (Y : Value → Value → Heap → Prop)
    (hkind : scope.kind = .function) (hx : scope.names.lookup x = some .local) (hst : St 0 s.heap) (hlive : ∀ i h, St i h → ∀ b ∈ wr, ∃ o, h.get? b = some o)
    (hDC : D ≠ C) (hDf : D ∉ fp) (hCf : C ∉ fp) (hwr : ∀ b ∈ wr, h.get? b = none) (hC : h.get? C = none) (hD : h.get? D = none) (hL : ∃ o, h.get? L = some o)
    (hE : Ext h s.heap) (hacc : s.heap.PlainList D #[]) (hn : s.heap.Ns C m₀) (T : Turns prog w A env h scope cl x ifs elt P p Y)
    (hR : ∀ s' m ys (vs : List Value), s'.heap.Ns C m → s'.heap.PlainList D ys → vs.length = n → (∀ j v, vs[j]? = some v → P j v) →
      Paired (fun v y => ∀ h', YK (L :: C :: D :: wr) s'.heap h' → Y v y h') (vs.filter p) ys.toList → Rest s s' → Ext h s'.heap → R (.ok .next) s') :
    codeAny (model prog w) A (.compLoop (.ListComp elt [⟨.Name x px, iter, ifs, 0⟩] scope pos) 0 (.ref I) (.ref D) (compEnvC scope cl C env)) R s := by
  have hCw : C ∉ wr := fun h => hCf (W.sub _ h)
  have hDw : D ∉ wr := fun h => hDf (W.sub _ h)
  refine codeAny_compLoop_tests (fun k s' => ∃ m ys, ∃ vs : List Value, St vs.length s'.heap ∧ s'.heap.PlainList D ys ∧ s'.heap.Ns C m ∧ (∀ j v, vs[j]? = some v → P j v) ∧
      Paired (fun v y => ∀ h', YK (L :: C :: D :: wr) s'.heap h' → Y v y h') (vs.filter p) ys.toList ∧ vs.length ≤ n ∧ k = n + 1 - vs.length ∧ Rest s s' ∧ Ext h s'.heap) ?_ (n + 1)
    ⟨m₀, #[], [], hst, hacc, hn, by simp, .nil, Nat.zero_le _, rfl, .rfl', hE⟩
  rintro k s' ⟨m', ys, vs, hst', hacc', hn', hP, hF, hi, rfl, hr, hE'⟩
  by_cases hlt : vs.length < n
  · refine W.item vs.length _ _ _ hlt hst' fun v h₁ tk₁ hPv hst₁ hk₁ => ?_
    refine wpAny_assign_Name (wpAny_storeName_local (lookup_relabel_local hx) (hn'.at' fun o e => hk₁ _ o hCw e) (fun h₂ hn₂ hs₂ => ?_) (by simp [compEnvC, relabel, hkind]))
    have up₂ : ∀ b o, b ≠ C → b ∉ wr → s'.heap.get? b = some o → h₂.get? b = some o := fun b o hbC hbf e => hs₂.extBut b o hbC (hk₁ b o hbf e)
    have hst₂ : St (vs.length + 1) h₂ := W.frame _ _ _ hst₁ fun b hb o e => hs₂.extBut b o (fun (q : b = C) => hCf (q ▸ hb)) e
    have hE₂ : Ext h h₂ := fun b o e => up₂ b o (fun q => by rw [q, hC] at e; cases e) (fun q => by rw [hwr b q] at e; cases e) (hE' b o e)
    have hr₂ : ∀ tk, Rest s { s' with heap := h₂, toks := tk } := fun _ => ⟨hr.gens, hr.os, hr.drawn⟩
    have up2 : YK (L :: C :: D :: wr) s'.heap h₂ := fun b o hb e => up₂ b o (fun q => hb (by simp [q])) (fun q => hb (by simp [q])) e
    have hacc₂ : h₂.PlainList D ys := hacc'.at fun o e => up₂ D o hDC hDw e
    refine wpAny_mono (T.tests C vs.length v _ _ _ hPv hn₂ (by simp) hE₂) (fun ok s₃ h₃ => ?_) fun _ _ e => e
    obtain ⟨rfl, r₃, e₃⟩ := h₃
    have hst₃ : St (vs.length + 1) s₃.heap := W.frame _ _ _ hst₂ fun b _ o e => e₃ b o e
    have hP' : ∀ j u, (vs ++ [v])[j]? = some u → P j u := fun j u hj => by
      rcases Nat.lt_trichotomy j vs.length with h | h | h
      · exact hP j u (by rwa [List.getElem?_append_left h] at hj)
      · subst h; simp at hj; subst hj; exact hPv
      · rw [List.getElem?_eq_none (by simp; omega)] at hj; cases hj
    cases hpv : p v with
    | false =>
      simp only [Bool.false_eq_true, if_false]
      refine ⟨n + 1 - (vs.length + 1), by omega, _, ys, vs ++ [v], by simpa using hst₃, hacc₂.at fun o e => e₃ _ o e, hn₂.keeps e₃, hP', ?_, (by simp; omega), (by simp), (hr₂ _).trans' r₃, hE₂.trans' e₃⟩
      rw [List.filter_append]
      simpa [hpv] using hF.mono fun _ _ hy h' hk => hy h' (up2.trans' ((YK.of_ext e₃).trans' hk))
    | true =>
      simp only [if_true]
      refine wpAny_mono (T.elt (L :: C :: D :: wr) C vs.length v s₃ _ _ hPv hpv (hn₂.keeps e₃) (by simp) (hE₂.trans' e₃) ?_) (fun y s₄ h₄ => ?_) fun _ _ e => e
      · intro b hb
        have live₂ : ∃ o, h₂.get? b = some o := by
          rcases List.mem_cons.mp hb with rfl | hb
          · obtain ⟨o, e⟩ := hL; exact ⟨o, hE₂ _ _ e⟩
          rcases List.mem_cons.mp hb with rfl | hb
          · obtain ⟨o, _, _, e, _⟩ := hn₂; exact ⟨o, e⟩
          rcases List.mem_cons.mp hb with rfl | hb
          · obtain ⟨o, e, _⟩ := hacc₂.isList; exact ⟨o, e⟩
          · exact hlive _ _ hst₂ b hb
        obtain ⟨o, e⟩ := live₂
        exact ⟨o, e₃ _ _ e⟩
      · obtain ⟨r₄, e₄, hy⟩ := h₄
        have hys : ys.size ≤ sizeLine := by
          have e1 := hF.length
          have e2 : (vs.filter p).length ≤ vs.length := List.length_filter_le _ _
          have e4 : ys.toList.length = ys.size := by simp
          omega
        refine wpAny_list_append_plain (hsz := hys) ((hacc₂.at fun o e => e₃ _ o e).at fun o e => e₄ _ o e) fun h₅ hl₅ hs₅ => ?_
        have k₅ : YK (L :: C :: D :: wr) s₄.heap h₅ := YK.of_same hs₅ (by simp)
        refine ⟨n + 1 - (vs.length + 1), by omega, _, ys.push y, vs ++ [v], ?_, hl₅, ((hn₂.keeps e₃).keeps e₄).sameBut hs₅ (Ne.symm hDC), hP', ?_, (by simp; omega), (by simp), ?_, ?_⟩
        · have := W.frame _ _ h₅ hst₃ fun b hb o e => hs₅.extBut b o (fun h => hDf (h ▸ hb)) (e₄ b o e)
          simpa using this
        · rw [List.filter_append]
          have h1 := hF.mono fun _ _ hy h' (hk : YK (L :: C :: D :: wr) h₅ h') => hy h' (up2.trans' ((YK.of_ext e₃).trans' ((YK.of_ext e₄).trans' (k₅.trans' hk))))
          simpa [hpv] using Paired.snoc h1 fun h' hk => hy h' (k₅.trans' hk)
        · exact (hr₂ _).trans' (r₃.trans' (r₄.trans' ⟨rfl, rfl, rfl⟩))
        · exact fun b o e => hs₅.extBut b o (fun q => by rw [q, hD] at e; cases e) (e₄ _ _ (e₃ _ _ (hE₂ _ _ e)))
  · have hin : vs.length = n := by omega
    refine W.done _ _ _ (hin ▸ hst') fun h₁ tk₁ hk₁ => ?_
    refine hR _ m' ys vs (hn'.at' fun o e => hk₁ _ o hCw e) (hacc'.at fun o e => hk₁ _ o hDw e) hin hP (hF.mono fun _ _ hy h' hk => hy h' (YK.trans' (fun b o hb e => hk₁ b o (fun q => hb (by simp [q])) e) hk)) ⟨hr.gens, hr.os, hr.drawn⟩
      fun b o e => hk₁ b o (fun q => by rw [hwr b q] at e; cases e) (hE' b o e)

theorem comp_block {elt iter : Expr} {x : Str} {px : Pos} {ifs : List Expr} {scope : Scope} {cl : List (Str × Addr)} {pos : Pos} {s : Shared} {I L : Addr} {fp wr : List Addr} {n : Nat} {P : Nat → Value → Prop}
    {St : Nat → Heap → Prop} {E : Value → Shared → Prop} (W : Walks prog w A I fp wr n P St) (hsz : n ≤ sizeLine) (p : Value → Bool) (Y : Value → Value → Heap → Prop) {RR : Value → Addr → Result → Shared → Prop}
    (hcell : ∀ y ∈ scope.names, y.2 ≠ .cell) (hkind : scope.kind = .function) (hx : scope.names.lookup x = some .local) (hst : St 0 s.heap) (hfp : ∀ b ∈ fp, b < s.heap.objs.size) (hwr : ∀ b ∈ wr, h.get? b = none)
    (hlive : ∀ i h, St i h → ∀ b ∈ wr, ∃ o, h.get? b = some o) (hL : ∃ o, h.get? L = some o) (hE : Ext h s.heap) (T : Turns prog w A env h scope cl x ifs elt P p Y)
    (hRR : ∀ D C s' m ys (vs : List Value), h.get? D = none → h.get? C = none → D ≠ C → s'.heap.Ns C m → s'.heap.PlainList D ys → vs.length = n → (∀ j v, vs[j]? = some v → P j v) →
      Paired (fun v y => ∀ h', YK (L :: C :: D :: wr) s'.heap h' → Y v y h') (vs.filter p) ys.toList → Rest s s' → Ext h s'.heap → RR (.ref D) C (.ok .next) s') :
    wpAny (model prog w) A (newList []) (fun acc s₃ => wpAny (model prog w) A (newFunctionEnv scope env.globals cl [] env.qual none .none (some env)) (fun cenv s₄ =>
      codeAny (model prog w) A (.compStart (.ListComp elt [⟨.Name x px, iter, ifs, 0⟩] scope pos) 0 (.ref I) acc { cenv with scope := relabel scope env }) (RR acc cenv.locals) s₄) E s₃) E s := by
  refine wpAny_newObj_type (wpAny_newFunctionEnv hcell (by intro y hy; simp at hy) (fun h₁ hns₁ hsb₁ => ?_) hkind)
  dsimp only at hns₁ hsb₁ ⊢
  generalize hH2 : s.heap.push { cls := .type "list", dict := none, data := .seq ([] : List Value).toArray } = H2 at hns₁ hsb₁ ⊢
  have hC : H2.objs.size = s.heap.objs.size + 1 := by rw [← hH2, Heap.size_push]
  have hDC : s.heap.objs.size ≠ H2.objs.size := by rw [hC]; exact Nat.ne_of_lt (Nat.lt_succ_self _)
  have old : Ext s.heap h₁ := fun b o e => hsb₁.extBut b o (by rw [hC]; exact Nat.ne_of_lt (Nat.lt_succ_of_lt (Heap.lt_size e))) (Heap.get?_push_of_some _ (hH2 ▸ Heap.get?_push_of_some _ e))
  have hacc : h₁.PlainList s.heap.objs.size #[] := ⟨_, hsb₁.extBut _ _ hDC (Heap.get?_push_of_some _ (hH2 ▸ Heap.get?_push_size _ rfl))⟩
  have hst₁ : St 0 h₁ := W.frame _ _ _ hst fun b _ o e => old b o e
  have lower : ∀ a, s.heap.get? a = none → h.get? a = none := fun a ha => by
    cases e : h.get? a with
    | none => rfl
    | some o => rw [hE _ _ e] at ha; cases ha
  have nD : h.get? s.heap.objs.size = none := lower _ (get_size _)
  have nC : h.get? H2.objs.size = none := lower _ (get_big (by rw [hC]; exact Nat.le_succ _))
  have hDf : s.heap.objs.size ∉ fp := fun hm => Nat.lt_irrefl _ (hfp _ hm)
  have hCf : H2.objs.size ∉ fp := fun hm => by have := hfp _ hm; rw [hC] at this; exact Nat.lt_irrefl _ (Nat.lt_of_succ_lt this)
  have loop : ∀ s₃ : Shared, s₃ = { s with heap := h₁, toks := s.toks + ([] : List (Str × Value)).length } →
      codeAny (model prog w) A (.compLoop (.ListComp elt [⟨.Name x px, iter, ifs, 0⟩] scope pos) 0 (.ref I) (.ref s.heap.objs.size) (compEnvC scope cl H2.objs.size env)) (RR (.ref s.heap.objs.size) H2.objs.size) s₃ := by
    rintro s₃ rfl
    refine comp_loop (L := L) W hsz p Y hkind hx hst₁ hlive hDC hDf hCf hwr nC nD hL (hE.trans' old) hacc hns₁ T ?_
    intro s' m ys vs hn hpl hlen hP hF hr hE'
    exact hRR _ _ s' m ys vs nD nC hDC hn hpl hlen hP hF ⟨hr.gens, hr.os, hr.drawn⟩ hE'
  exact codeAny_compStart_list (loop _ rfl) (W.self 0 _ _ _ hst₁ (loop _ rfl))

/-- a comprehension as a value -/
theorem EvX.comp {elt iter : Expr} {x : Str} {px : Pos} {ifs : List Expr} {scope : Scope} {cl : List (Str × Addr)} {pos : Pos} {n : Nat} {P : Nat → Value → Prop} (p : Value → Bool) (Y : Value → Value → Heap → Prop)
    (hsrc : Src prog w A env h iter n P) (hsz : n ≤ sizeLine) (hL : ∃ o, h.get? env.locals = some o) (T : Turns prog w A env h scope cl x ifs elt P p Y)
    (hclos : closureFor scope env = pure cl := by rfl) (hcell : ∀ y ∈ scope.names, y.2 ≠ .cell := by decide) (hkind : scope.kind = .function := by rfl)
    (hnames : ∀ y ∈ scope.names, y.2 = .local → scope.names.lookup y.1 = some .local := by decide) (hx : scope.names.lookup x = some .local := by rfl)
    (hs : ∀ x, foldedSetIterable iter env x = pure x := by intro _; rfl) :
    EvX prog w A env h (.ListComp elt [⟨.Name x px, iter, ifs, 0⟩] scope pos) (fun v h' => ∃ D ys, ∃ vs : List Value, v = .ref D ∧ h.get? D = none ∧ h'.PlainList D ys ∧ vs.length = n ∧ (∀ j v, vs[j]? = some v → P j v) ∧
      Paired (fun v y => Y v y h') (vs.filter p) ys.toList) := by
  intro Q E s hs' hQ
  rw [eval_ListComp]
  refine wpAny_comprehension_free (use := none) rfl hs hclos hkind hnames (hsrc _ _ s hs' ?_)
  intro I fp wr St s₁ r₁ e₁ W hst hfp hwr hlive
  refine comp_block (RR := fun acc C => compPost (model prog w) A E none Q acc C) (L := env.locals) W hsz p Y hcell hkind hx hst hfp hwr hlive hL e₁ T ?_
  intro D C s' m ys vs hD hC hDC hn hpl hlen hP hF hr hE
  refine ⟨m, hn, fun h' hs' => hQ _ _ (r₁.trans' ⟨hr.gens, hr.os, hr.drawn⟩) (fun b o e => hs'.extBut b o (fun q => by rw [q, hC] at e; cases e) (hE _ _ e)) ⟨D, ys, vs, rfl, hD, ?_, hlen, hP, ?_⟩⟩
  · obtain ⟨n, e⟩ := hpl
    exact ⟨n, (hs'.2 _ hDC).trans e⟩
  · exact hF.mono fun _ _ hy => hy _ (YK.of_same hs' (by simp))

/-- y = [..] -/
theorem assignComp {E : Value → Shared → Prop} {s : Shared} {h₀ : Heap} {m₀ : Str → Option Value} {news : List (Addr × Obj)} {elt iter : Expr} {x y : Str} {px py : Pos} {ifs : List Expr} {scope : Scope} {cl : List (Str × Addr)} {pos spos : Pos} {n : Nat} {P : Nat → Value → Prop} {Q : Flow → Shared → Prop}
    (S : Sta h₀ env.locals m₀ news s.heap) (p : Value → Bool) (Y : Value → Value → Heap → Prop)
    (hsrc : Src prog w A env s.heap iter n P) (hsz : n ≤ sizeLine) (T : Turns prog w A env s.heap scope cl x ifs elt P p Y)
    (hQ : ∀ D s' ys (vs : List Value), s.heap.get? D = none → s'.heap.PlainList D ys → vs.length = n → (∀ j v, vs[j]? = some v → P j v) → Paired (fun v z => Y v z s'.heap) (vs.filter p) ys.toList →
      Rest s s' → (∀ b o, b ≠ env.locals → s.heap.get? b = some o → s'.heap.get? b = some o) → Sta h₀ env.locals (upd m₀ y (.ref D)) news s'.heap → Q .next s')
    (hsw : swapsWith (.ListComp elt [⟨.Name x px, iter, ifs, 0⟩] scope pos) (some (.Name y py)) spos.line env = pure true := by rfl)
    (hclos : closureFor scope env = pure cl := by rfl) (hcell : ∀ y ∈ scope.names, y.2 ≠ .cell := by decide) (hkind : scope.kind = .function := by rfl)
    (hnames : ∀ y ∈ scope.names, y.2 = .local → scope.names.lookup y.1 = some .local := by decide) (hx : scope.names.lookup x = some .local := by rfl)
    (hs : ∀ x, foldedSetIterable iter env x = pure x := by intro _; rfl)
    (hl : env.kindOf y = some .local := by rfl) (hp : (env.scope.kind == .class || (env.scope.kind == .module && env.locals != env.globals)) = false := by rfl) :
    wpAny (model prog w) A (exec (.Assign [.Name y py] (.ListComp elt [⟨.Name x px, iter, ifs, 0⟩] scope pos) spos) env) Q E s := by
  rw [exec_Assign_Name_used _ _ _ _ hsw]
  refine wpAny_bind (wpAny_standAt (wpAny_bind ?_))
  show wpAny _ A (do let _ ← comprehension (.ListComp elt [⟨.Name x px, iter, ifs, 0⟩] scope pos) scope env _ (newList []) false (eval iter env) (some (assign (.Name y py) env))) _ _ s
  refine wpAny_bind (wpAny_mono (wpAny_comprehension_free (use := some (assign (.Name y py) env)) (Q := fun _ s' => Q .next s') rfl hs hclos hkind hnames
    (hsrc _ _ s rfl ?_)) (fun _ s' hq => wpAny_pure (wpAny_pure hq)) fun _ _ e => e)
  intro I fp wr St s₁ r₁ e₁ W hst hfp hwr hlive
  have hL : ∃ o, s.heap.get? env.locals = some o := by obtain ⟨o, _, _, e, _⟩ := S.fr.ns; exact ⟨o, e⟩
  refine comp_block (RR := fun acc C => compPost (model prog w) A E (some (assign (.Name y py) env)) (fun _ s' => Q .next s') acc C) (L := env.locals) W hsz p Y hcell hkind hx hst hfp hwr hlive hL e₁ T ?_
  intro D C s' m ys vs hD hC hDC hn hpl hlen hP hF hr hE
  have hLC : env.locals ≠ C := by rintro e; obtain ⟨o, ho⟩ := hL; rw [e, hC] at ho; cases ho
  have hLD : env.locals ≠ D := by rintro e; obtain ⟨o, ho⟩ := hL; rw [e, hD] at ho; cases ho
  have S' := S.ext hE
  show wpAny _ A (assign (.Name y py) env (.ref D)) _ _ _
  refine wpAny_assign_Name (wpAny_storeName_local hl S'.fr.ns (fun h₂ hn₂ hs₂ => ?_) hp)
  refine ⟨m, hn.sameBut hs₂ (Ne.symm hLC), fun h₃ hs₃ => ?_⟩
  have S₂ := S'.set hn₂ hs₂
  refine hQ D _ ys vs hD ?_ hlen hP ?_ (r₁.trans' ⟨hr.gens, hr.os, hr.drawn⟩) ?_ ?_
  · obtain ⟨n, e⟩ := hpl
    exact ⟨n, (hs₃.2 _ hDC).trans ((hs₂.2 _ (Ne.symm hLD)).trans e)⟩
  · exact hF.mono fun _ _ hy => hy _ ((YK.of_same hs₂ (by simp)).trans' (YK.of_same hs₃ (by simp)))
  · exact fun b o hb e => hs₃.extBut b o (fun q => by rw [q, hC] at e; cases e) (hs₂.extBut b o hb (hE _ _ e))
  · have hC0 : h₀.get? C = none := by
      cases e : h₀.get? C with
      | none => rfl
      | some o => rw [S.old e] at hC; cases hC
    refine ⟨S₂.fr.change hs₃ (Ne.symm hLC) hC0, fun q hq => ?_⟩
    have h1 := S₂.nw q hq
    have h2 := S.nw q hq
    exact ⟨(hs₃.2 _ (fun e => by rw [e, hC] at h2; cases h2.1)).trans h1.1, h1.2⟩
end
end Mine
namespace Mine
local macro_rules | `(tactic| walk_at "look") => `(tactic| first | assumption | exact upd_same _ _ _ | (refine (upd_other (by decide)).trans ?_; walk_at "look") | with_unfolding_all rfl)

def cellsD : {d : DefRec // d = fnm (topSt 6)} := ⟨_, by conv => rhs; whnf⟩

def wide (c : Nat) : Bool := c == 28450 || c == 44032
def cellOf (c : Nat) : Int := if wide c then 2 else 1
def cellsOf (x : Str) : Int := (x.cps.toList.map cellOf).sum

section
variable {prog : Program} {w : World} {A : Around} {env : Env} {h : Heap}
theorem EvX.sum {x : Str} {np pos : Pos} {e : Expr} {R : Value → Heap → Prop} {N : Int} (hh : A.handled = none) (hf : EvP prog w A env h (.Name x np) (Is (.builtin "sum"))) (he : EvX prog w A env h e R)
    (k : ∀ v h', R v h' → ∃ l vs ns, v = .ref l ∧ h'.IsList l (List.toArray vs) ∧ IntsAre vs ns ∧ ns.sum = N) (hs : starEach [e] env = [(false, eval e env)] := by rfl) :
    EvX prog w A env h (.Call (.Name x np) [e] [] pos) (fun v _ => IsI N v) := by
  intro Q E s hs' hQ
  refine Call_name1 hs (hf _ _ s hs' ?_)
  rintro _ s₁ r₁ e₁ rfl
  refine callWith_builtin1 (he _ _ _ e₁ ?_)
  intro v s₂ r₂ e₂ hR
  obtain ⟨l, vs, ns, rfl, hl, hi, rfl⟩ := k _ _ hR
  obtain ⟨xs, hx⟩ := hi.allInts.items
  have hl' : s₂.heap.IsList l (intItems xs) := hx ▸ hl
  refine sum_intListG hh hl' fun h' tk t' hk => ?_
  have e1 : ns = xs.toList.map (·.1) := by
    rw [← nums_intItems, ← hx]
    exact (show numsOf vs.toArray.toList = ns from hi.numsOf).symm
  have e2 : preSum (numAt xs) xs.size = ns.sum := by
    rw [preSum_eq, List.take_of_length_le (by simp), e1]
  rw [e2]
  exact hQ _ _ (r₁.trans' (r₂.trans' ⟨rfl, rfl, rfl⟩)) (fun b o e => hk _ _ (e₂ _ _ e)) ⟨t', rfl⟩

theorem EvT.inText {l r : Expr} {pos : Pos} {c : Nat} {x : Str} (hl : EvP prog w A env h l (IsS ⟨#[c]⟩)) (hr : EvP prog w A env h r (IsS x)) (hm : behindInMarks .In r = false := by with_unfolding_all rfl) :
    EvT prog w A env h (.Compare l [.In] [r] pos) (decide (c ∈ x.cps.toList)) :=
  EvT.cmp hl hr (by
    rintro _ _ Q E s hs ⟨t, rfl⟩ ⟨u, rfl⟩ hQ
    refine P.in_str ?_
    rw [StrLaws.found_one]
    exact hQ s .rfl' hs) hm
end

theorem wide_text (c : Nat) : decide (c ∈ (Str.ofString "漢가").cps.toList) = wide c := by
  have e : (Str.ofString "漢가").cps.toList = [28450, 44032] := by decide +kernel
  rw [e]
  simp [wide, Bool.decide_or, List.mem_cons]
  rfl

theorem paired_ints {f : Value → Int} : ∀ {vs ys : List Value}, Paired (fun v y => ∃ t, y = .int (f v) t) vs ys → IntsAre ys (vs.map f)
  | _, _, .nil => .nil
  | _, _, .cons ⟨t, e⟩ r => by subst e; exact .cons _ t (paired_ints r)

def signCode : Value → Nat
  | .str x _ => x.cps[0]?.getD 0
  | _ => 0
theorem signs_codes {x : Str} {vs : List Value} (hl : vs.length = x.cps.size) (h : ∀ j v, vs[j]? = some v → SignAt x j v) : vs.map signCode = x.cps.toList := by
  apply List.ext_getElem?
  intro j
  rw [List.getElem?_map]
  cases e : vs[j]? with
  | none =>
    have : x.cps.toList.length ≤ j := by
      rw [Array.length_toList, ← hl]
      exact List.getElem?_eq_none_iff.mp e
    rw [List.getElem?_eq_none this]; rfl
  | some v =>
    obtain ⟨c, u, hc, rfl⟩ := h j v e
    simpa [signCode] using hc.symm

section
variable {prog : Program} {w : World} {A : Around} {E : Value → Shared → Prop} {s : Shared} {mg mb : Str → Option Value} {f : Addr} {x : Str} {t : Tok} {Q : Value → Shared → Prop}

theorem cells_spec (hh : A.handled = none) (hd : A.depth < recursionLimit) (Gr : Grd mg mb s.heap) (hm1 : mg "sum" = none) (hb1 : mb "sum" = some (.builtin "sum"))
    (hf : FnAt cellsD.1 s.heap f) (hx : x.cps.size ≤ sizeLine)
    (hQ : ∀ v s', Rest s s' → Ext s.heap s'.heap → IsI (cellsOf x) v → Q v s') :
    wpAny (model prog w) A (call (.ref f) [.str x t]) Q E s := by
  refine enter [("word", .str x t)] hd Gr hf ?_
  intro code s₀ R₀ S
  have G₀ := Gr.keeps S.fr.keep
  refine wpAny_execs_cons (return_ (EvX.sum (N := cellsOf x) hh (EvP.bt G₀ hm1 hb1) (EvX.comp (n := x.cps.size) (P := SignAt x) (fun _ => true) (fun v y _ => ∃ t, y = .int (cellOf (signCode v)) t) (Src.str hh (EvP.loc S.fr.ns (by walk_at "look") ⟨t, rfl⟩)) hx ?_ ⟨?_, ?_⟩) ?_) ?_)
  · obtain ⟨o, _, _, e, _⟩ := S.fr.ns; exact ⟨o, e⟩
  · intro C i v s m E _ _ _ _
    exact wpAny_tests_nil ⟨rfl, .rfl', .rfl'⟩
  · rintro X C i v s₁ m E ⟨c, u, hc, rfl⟩ _ hn hv hE hX
    refine (EvX.ifexp (R := fun y _ => ∃ t, y = .int (cellOf c) t) (b := decide (c ∈ (Str.ofString "漢가").cps.toList)) (EvT.inText (EvP.loc hn hv ⟨u, rfl⟩) EvP.str) ?_ ?_) _ _ s₁ rfl ?_
    · intro hb
      rw [wide_text] at hb
      refine EvP.lit.x.mono ?_
      rintro v h' _ ⟨⟨t, rfl⟩, _⟩
      exact ⟨t, by simp [cellOf, hb]⟩
    · intro hb
      rw [wide_text] at hb
      refine EvP.lit.x.mono ?_
      rintro v h' _ ⟨⟨t, rfl⟩, _⟩
      exact ⟨t, by simp [cellOf, hb]⟩
    · rintro v s₂ r₂ e₂ ⟨t, rfl⟩
      exact ⟨r₂, e₂, fun _ _ => ⟨t, by simp [signCode]⟩⟩
  · rintro v h' ⟨D, ys, vs, rfl, hD, hpl, hlen, hP, hF⟩
    rw [List.filter_eq_self.mpr (by intro _ _; rfl)] at hF
    have hi := paired_ints (f := fun v => cellOf (signCode v)) hF
    refine ⟨D, ys.toList, _, rfl, by simpa using hpl.isList, hi, ?_⟩
    rw [cellsOf, ← signs_codes hlen hP, List.map_map]; rfl
  · intro v s' r' e' hv
    exact hQ v s' (R₀.trans' r') (fun b o e => e' _ _ (S.old e)) hv
end
end Mine
namespace Mine
theorem kind_eaw : builtinKind "unicodedata.east_asian_width" = none := by decide +kernel
theorem plain_eaw : plainId "unicodedata.east_asian_width" = true := by decide +kernel
theorem entry_eaw : entryFor table "unicodedata.east_asian_width" = some Builtin.«unicodedata.east_asian_width» := entryFor_of_fast (by kernel_rfl)
theorem args_eaw (v : Value) : argsOk "unicodedata.east_asian_width" ⟨[v], []⟩ := by kernel_rfl

/-- the signs that a row of words may hold -/
def alphabet : List Nat := [97, 81, 233, 65393, 28450, 44032, 32]
def widthText (c : Nat) : Str := Str.ofString (Builtin.Unicodedata.widthOf c)
theorem width_small : ∀ c ∈ alphabet, (widthText c).length ≤ sizeLine := by decide +kernel
theorem width_wide : ∀ c ∈ alphabet, (!(Builtin.Str.occurrences (Str.ofString "WF") (widthText c) 0 (Str.ofString "WF").length 1).isEmpty) = wide c := by decide +kernel

section
variable {prog : Program} {w : World} {A : Around} {E : Value → Shared → Prop} {s : Shared} {env : Env} {h : Heap}
theorem call_eaw {c : Nat} {t : Tok} {Q : Value → Shared → Prop} (hsz : (widthText c).length ≤ sizeLine) (h : ∀ s', Rest s s' → s'.heap = s.heap → ∀ t', Q (.str (widthText c) t') s') :
    wpAny (model prog w) A (call (.builtin "unicodedata.east_asian_width") [.str ⟨#[c]⟩ t]) Q E s := by
  refine call_function_entry kind_eaw plain_eaw entry_eaw (args_eaw _) ?_
  show wpAny _ _ (retStr (widthText c)) _ _ s
  unfold retStr mkStr
  rw [if_neg (Nat.not_lt.mpr hsz)]
  exact wpAny_bind (wpAny_bind (wpAny_fresh (wpAny_pure (wpAny_pure ⟨_, rfl, h { s with toks := s.toks + 1 } ⟨rfl, rfl, rfl⟩ rfl _⟩))))

theorem EvP.eaw {x : Str} {np pos : Pos} {e : Expr} {c : Nat} (hf : EvP prog w A env h (.Name x np) (Is (.builtin "unicodedata.east_asian_width"))) (he : EvP prog w A env h e (IsS ⟨#[c]⟩)) (hsz : (widthText c).length ≤ sizeLine)
    (hs : starEach [e] env = [(false, eval e env)] := by rfl) : EvP prog w A env h (.Call (.Name x np) [e] [] pos) (IsS (widthText c)) := by
  intro Q E s hs' hQ
  refine Call_name1 hs (hf _ _ s hs' ?_)
  rintro _ s₁ r₁ e₁ rfl
  refine callWith_builtin1 (he _ _ _ e₁ ?_)
  rintro _ s₂ r₂ e₂ ⟨t, rfl⟩
  exact call_eaw hsz fun s₃ r₃ e₃ t' => hQ _ s₃ (r₁.trans' (r₂.trans' r₃)) (e₃.trans e₂) ⟨t', rfl⟩

theorem EvT.inStr {l r : Expr} {pos : Pos} {x y : Str} {b : Bool} (hl : EvP prog w A env h l (IsS y)) (hr : EvP prog w A env h r (IsS x)) (hb : (!(Builtin.Str.occurrences x y 0 x.length 1).isEmpty) = b) (hm : behindInMarks .In r = false := by with_unfolding_all rfl) :
    EvT prog w A env h (.Compare l [.In] [r] pos) b :=
  EvT.cmp hl hr (by
    rintro _ _ Q E s hs ⟨t, rfl⟩ ⟨u, rfl⟩ hQ
    refine P.in_str ?_
    rw [hb]
    exact hQ s .rfl' hs) hm

/-- line[:j] -/
theorem EvX.sliceStr {value upper : Expr} {p pos : Pos} {x : Str} {j : Int} (hv : EvP prog w A env h value (IsS x)) (hu : EvP prog w A env h upper (IsI j)) (hx : x.length ≤ sizeLine)
    (hs : ∀ o i, subscripted (.Slice none (some upper) none p) false o i = operate [i, o] (getItem o i) := by intro _ _; with_unfolding_all rfl)
    (ht : ∀ o r, letTemporaryGo value o r = pure () := by intro _ _; with_unfolding_all rfl) :
    EvX prog w A env h (.Subscript value (.Slice none (some upper) none p) pos) (fun v _ => IsS (Txt.slice x none (some j)) v) := by
  intro Q E s hs' hQ
  refine Subscript_ (hv _ _ s hs' ?_)
  rintro _ s₁ r₁ e₁ ⟨t, rfl⟩
  refine wpAny_Slice ?_
  rw [evalPart_none, evalPart_some]
  refine wpAny_pure (hu _ _ _ e₁ ?_)
  rintro _ s₂ r₂ e₂ ⟨u, rfl⟩
  refine wpAny_pure ?_
  refine tail_of_ItemOn (SBG.sliceItem_ns (Fm := fun s' => Rest s s' ∧ Ext h s'.heap) (fun s' ob k x => ⟨x.1.trans' ⟨rfl, rfl, rfl⟩, x.2.trans' (Ext.pushed _)⟩) (s := s₂) ⟨r₁.trans' r₂, by rw [e₂]; exact .rfl'⟩ ?_ hx) (hs _ _) (ht _)
  intro s' t' hF
  exact hQ _ s' hF.1 hF.2 ⟨t', rfl⟩
end

theorem slice_whole (x : Str) : Txt.slice x none (some (x.length : Int)) = x := by
  unfold Txt.slice
  rw [if_pos]
  simp only [beq_self_eq_true, Bool.true_and, beq_iff_eq]
  unfold Builtin.Str.strSliceIndices sliceRange
  simp only [show (1 : Int) > 0 by decide, if_true, List.length_map, List.length_range]
  rw [if_neg (show ¬ ((x.length : Int) < 0) by omega)]
  have e : max (0 : Int) (min (x.length : Int) (x.length : Int)) = x.length := by omega
  rw [e]
  split <;> omega
end Mine
namespace Mine
local macro_rules | `(tactic| walk_at "look") => `(tactic| first | assumption | exact upd_same _ _ _ | (refine (upd_other (by decide)).trans ?_; walk_at "look") | with_unfolding_all rfl)

def dispD : {d : DefRec // d = fnm (topSt 3)} := ⟨_, by conv => rhs; whnf⟩

def Tab (c P : Addr) (h : Heap) : Prop := ∃ ps, h.IsCode c P ps ∧ h.TableAt c P ps
theorem Tab.at {c P : Addr} {h h' : Heap} (x : Tab c P h) (k : ∀ b, b = c ∨ b = P → ∀ o, h.get? b = some o → h'.get? b = some o) : Tab c P h' := by
  obtain ⟨ps, ⟨o, vs, file, tf, flags, tg, inF, text, tt, op, a, r1, r2, r3, r4, r5, r6, b, r⟩, ⟨⟨o', vs', a', r'⟩, b'⟩⟩ := x
  exact ⟨ps, ⟨o, vs, file, tf, flags, tg, inF, text, tt, op, k _ (.inl rfl) _ a, r1, r2, r3, r4, r5, r6, k _ (.inr rfl) _ b, r⟩, ⟨⟨o', vs', k _ (.inl rfl) _ a', r'⟩, k _ (.inr rfl) _ b'⟩⟩
theorem Tab.lt {c P : Addr} {h : Heap} (x : Tab c P h) : c < h.objs.size ∧ P < h.objs.size := let ⟨_, a, _⟩ := x; a.lt
theorem Tab.keeps {c P : Addr} {h h' : Heap} (x : Tab c P h) (k : Ext h h') : Tab c P h' := let ⟨ps, a, b⟩ := x; ⟨ps, a.keeps k, b.keeps k⟩

/-- names of the top and of the built-ins -/
structure Nms (mg mb : Str → Option Value) : Prop where
  sum : mg "sum" = none ∧ mb "sum" = some (.builtin "sum")
  len : mg "len" = none ∧ mb "len" = some (.builtin "len")
  range : mg "range" = none ∧ mb "range" = some (.type "range")
  eaw : mg "east_asian_width" = some (.builtin "unicodedata.east_asian_width")
  wcs : ∃ t, mg "_WIDE_CHAR_SPECIFIERS" = some (.str "WF" t)

structure DispAt (h : Heap) (f c P : Addr) : Prop where
  fn : ∃ o pm doc dT odT n, h.get? f = some o ∧ o.data = .func { docDef dispD.1.name dispD.1.params dispD.1.body dispD.1.scope pm (.ref c) doc with defaults := .ref dT } ∧
    h.CodeRec (.ref c) dispD.1.name ∧ h.get? dT = some odT ∧ odT.data = .seq #[.none] n

theorem preSum_cells (x : Str) : ∀ j, preSum (fun i => cellOf (x.cps[i]?.getD 0)) j = ((x.cps.toList.map cellOf).take j).sum + (2 * 0) ∨ x.cps.size < j
  | 0 => .inl (by simp [preSum])
  | j + 1 => by
    rcases preSum_cells x j with h | h
    · by_cases hj : j < x.cps.size
      · refine .inl ?_
        rw [preSum, h, List.take_add_one]
        simp [hj]
      · exact .inr (by omega)
    · exact .inr (by omega)
theorem preSum_all (x : Str) : preSum (fun i => cellOf (x.cps[i]?.getD 0)) x.cps.size = cellsOf x := by
  rcases preSum_cells x x.cps.size with h | h
  · rw [h, List.take_of_length_le (by simp)]; simp [cellsOf]
  · omega
theorem cellOf_bounds (c : Nat) : 1 ≤ cellOf c ∧ cellOf c ≤ 2 := by unfold cellOf; split <;> omega
theorem preSum_bounds (x : Str) : ∀ j, 0 ≤ preSum (fun i => cellOf (x.cps[i]?.getD 0)) j ∧ preSum (fun i => cellOf (x.cps[i]?.getD 0)) j ≤ 2 * j
  | 0 => by simp [preSum]
  | j + 1 => by
    have h := preSum_bounds x j
    have b := cellOf_bounds (x.cps[j]?.getD 0)
    rw [preSum]; push_cast; omega

section
variable {prog : Program} {w : World} {A : Around} {E : Value → Shared → Prop} {s : Shared} {env : Env} {mg mb : Str → Option Value} {c P : Addr}

theorem genCode {pos : Pos} {qual : Str} {scope : Scope} {Q : Value → Shared → Prop} (hc : env.code = .ref c) (hT : Tab c P s.heap)
    (hQ : ∀ code s', Rest s s' → Heap.ExtBut P s.heap s'.heap → s.heap.objs.size ≤ s'.heap.objs.size → Tab c P s'.heap → Q code s') : wpAny (model prog w) A (genexprCode env pos qual scope) Q E s := by
  obtain ⟨ps, hok, htab⟩ := hT
  cases hnf : codeAmong pos ps.toList with
  | none => exact wpAny_genexprCodeX hc hok htab hnf fun c' h' tk hx h1 h2 hok' _ htab' _ => hQ _ _ ⟨rfl, rfl, rfl⟩ hx (Nat.le_trans h1 (Nat.le_of_lt h2)) ⟨_, hok', htab'⟩
  | some cv =>
    have key := hQ cv s .rfl' (Heap.ExtBut.refl _ _) (Nat.le_refl _) ⟨ps, hok, htab⟩
    obtain ⟨o, vs, file, tf, flags, tg, inF, text, tt, op, ho, hd, h11, h2, h7, h9, h10, hop, hpd, htr, hne⟩ := hok
    unfold genexprCode codeAt
    rw [hc, if_neg (show ¬ ((Value.ref c == Value.none) = true) from Bool.false_ne_true)]
    refine wpAny_bind (wpAny_fieldsOf ho hd ?_)
    rw [h11]
    refine wpAny_bind (wpAny_fieldsOf hop hpd ?_)
    rw [hnf]
    exact wpAny_pure key

theorem genexp_sum {elt iter : Expr} {y : Str} {np cpos px pos : Pos} {scope : Scope} {x : Str} {bm : Addr} {ob : Obj} {Q : Value → Shared → Prop}
    (hh : A.handled = none) (hroom : A.depth < recursionLimit) (hcode : env.code = .ref c) (hglob : env.globals = mainGlobals) (hT : Tab c P s.heap) (hM : BMod s.heap mainGlobals mg bm ob) (hlim : s.heap.NoLimit) (hbare : AllBare s.gens)
    (hf : EvP prog w A env s.heap (.Name "sum" np) (Is (.builtin "sum"))) (hit : EvX prog w A env s.heap iter (fun v _ => IsS x v)) (hx : x.cps.size ≤ 2 ^ 20)
    (helt : ∀ (A' : Around) C code h m (a : Nat) t, a ∈ x.cps.toList → h.Ns mainGlobals mg → Heap.Ns h C m → m y = some (.str ⟨#[a]⟩ t) → EvX prog w A' (genEnv scope [] C code builtinsNs env) h elt (fun v _ => IsI (cellOf a) v))
    (hQ : ∀ v s', (∀ b o, b ≠ P → s.heap.get? b = some o → s'.heap.get? b = some o) → AllBare s'.gens → s'.os = s.os → Tab c P s'.heap → IsI (cellsOf x) v → Q v s')
    (hco : scope.isCoroutine = false := by rfl) (hclos : closureFor scope env = pure [] := by rfl) (hcell : ∀ y ∈ scope.names, y.2 ≠ .cell := by decide) (h0 : scope.names.lookup (".0" : Str) = some NameKind.local := by rfl)
    (hy : scope.names.lookup y = some .local := by rfl) (hkind : scope.kind = .function := by rfl) (hs : ∀ x, genFold iter env x = pure x := by intro _; rfl)
    (hst : starEach [.GeneratorExp elt [⟨.Name y px, iter, [], 0⟩] scope pos] env = [(false, eval (.GeneratorExp elt [⟨.Name y px, iter, [], 0⟩] scope pos) env)] := by rfl) :
    wpAny (model prog w) A (eval (.Call (.Name "sum" np) [.GeneratorExp elt [⟨.Name y px, iter, [], 0⟩] scope pos] [] cpos) env) Q E s := by
  refine Call_name1 hst (hf _ _ s rfl ?_)
  rintro _ s₁ r₁ e₁ rfl
  refine callWith_builtin1 ?_
  refine wpAny_GeneratorExp_walksQ hh hco hclos hcell h0 hy hkind hroom (hit _ _ _ e₁ ?_) hs
  rintro _ s₂ r₂ e₂ ⟨t, rfl⟩
  refine wpAny_pyIter_str fun oI St W st0 => ?_
  have up₂ : Ext s.heap (s₂.heap.push oI) := e₂.trans' (Ext.pushed _)
  refine ⟨hlim.keeps up₂, ?_⟩
  refine genCode hcode (hT.keeps up₂) ?_
  intro code s₃ r₃ e₃ z₃ T₃
  have hPI : P ≠ s₂.heap.objs.size := by
    obtain ⟨ps, a, _⟩ := hT.keeps e₂
    exact Nat.ne_of_lt a.lt.2
  have hcP : cStatics ≠ P := by
    intro e
    obtain ⟨ps, _, b⟩ := hT.keeps up₂
    obtain ⟨_, ⟨o, es, ep, ho, hd, _⟩, _⟩ := hlim.keeps up₂
    rw [e, b.2] at ho; cases ho; cases hd
  have M₃ : BMod s₃.heap mainGlobals mg bm ob := by
    obtain ⟨ps, _, b⟩ := hT.keeps up₂
    exact (hM.keeps up₂).extBut b e₃
  have hl₃ : s₃.heap.NoLimit := (hlim.keeps up₂).extBut e₃ hcP
  rw [hglob]
  refine wpAny_builtinsFor M₃.ns M₃.name M₃.ne M₃.obj M₃.cls M₃.dict M₃.data ?_
  have sz₃ : s₂.heap.objs.size + 1 ≤ s₃.heap.objs.size := by
    have : (s₂.heap.push oI).objs.size ≤ s₃.heap.objs.size := z₃
    rwa [Heap.size_push] at this
  have hcs : cStatics < s₂.heap.objs.size := by
    obtain ⟨_, hn, _⟩ := hlim.keeps e₂; exact hn.lt
  have hmg : mainGlobals < s₂.heap.objs.size := (hM.ns.keeps e₂).lt
  refine ⟨s₂.heap.objs.size, [s₂.heap.objs.size], [s₂.heap.objs.size], x.cps.size, SignAt x, St, fun _ => true, fun i v => IsI (cellOf (x.cps[i]?.getD 0)) v, rfl, W, ?_, ?_, hl₃, ?_, ?_, ?_⟩
  · exact (W A hh).frame _ _ _ st0 fun b hb o e => by
      rw [List.mem_singleton.mp hb] at e ⊢
      exact e₃ _ _ (Ne.symm hPI) e
  · intro b hb; rw [List.mem_singleton.mp hb]; exact Nat.lt_of_lt_of_le (Nat.lt_succ_self _) sz₃
  · intro hm; rw [List.mem_singleton.mp hm] at hcs; exact Nat.lt_irrefl _ hcs
  · intro href hhref
    refine ⟨fun A' E' i v u m₂ hA hP hn hm hk => wpAny_tests_nil ⟨rfl, u.heap, u.toks, rfl, fun _ _ e => e⟩, fun A' E' i v u m₂ hA hP _ hn hm hk => ?_⟩
    obtain ⟨a, ta, ha, rfl⟩ := hP
    have hnm : u.heap.Ns mainGlobals mg := by
      obtain ⟨o, es, ep, ho, r⟩ := M₃.ns
      refine ⟨o, es, ep, hk _ (List.mem_range.mpr (Nat.lt_of_lt_of_le hmg (Nat.le_of_succ_le sz₃))) (fun hm => ?_) _ (hhref _ _ ho), r⟩
      rw [List.mem_singleton.mp hm] at hmg; exact Nat.lt_irrefl _ hmg
    refine helt A' _ code u.heap m₂ a ta (by rw [Array.mem_toList_iff]; exact Array.mem_of_getElem? ha) hnm hn hm _ _ u rfl fun v' u' r' e' hv => ⟨?_, r'.keeps e'⟩
    rw [ha]; exact hv
  · intro a h₅ tk gs hgb hag hz₅ hk₅ WS sat
    have hpass : passing (fun _ => true) x.cps.size 0 = List.range x.cps.size := by
      unfold passing; rw [List.drop_zero]; exact List.filter_eq_self.mpr fun _ _ => rfl
    have hlen : (passing (fun _ => true) x.cps.size 0).length = x.cps.size := by rw [hpass]; simp
    have hat : ∀ j : Nat, ∀ i, (passing (fun _ => true) x.cps.size 0)[j]? = some i → i = j := by
      intro j i hj
      rw [hpass] at hj
      obtain ⟨hlt, e⟩ := List.getElem?_eq_some_iff.mp hj
      simpa using e.symm
    have W1 := WS.in4_1
    refine call_sum_walkS (W1.self 0 _ _ _ sat ⟨a, _, _, _, _, _, _, fun i => cellOf (x.cps[i]?.getD 0), rfl, W1, sat, ?_, ?_, ?_, ?_⟩)
    · intro b hb
      show b < h₅.objs.size
      rw [hz₅]
      rcases List.mem_cons.mp hb with rfl | hb
      · exact Nat.lt_succ_self _
      rcases List.mem_cons.mp hb with rfl | hb
      · exact Nat.lt_succ_of_lt hag
      · exact Nat.lt_succ_of_lt (Nat.lt_trans (List.mem_range.mp hb) hag)
    · rintro j v ⟨i, hi, hv⟩
      rw [hat j i hi] at hv
      exact hv
    · intro j hj
      rw [hlen] at hj
      have b1 := cellOf_bounds (x.cps[j]?.getD 0)
      have b2 := preSum_bounds x (j + 1)
      unfold InLong
      push_cast at b2
      refine ⟨⟨?_, ?_⟩, ?_, ?_⟩ <;> (try dsimp only) <;> omega
    · intro s' t' hm
      rw [hlen, preSum_all]
      have hk : ∀ b o, b ≠ P → s.heap.get? b = some o → s'.heap.get? b = some o := fun b o hb e => by
        have e2 := e₂ _ _ e
        have hlt := Heap.lt_size e2
        refine hm.heap b o (fun hmem => ?_) (hk₅ _ _ (e₃ _ _ hb (Heap.get?_push_of_some _ e2)))
        rcases List.mem_cons.mp hmem with rfl | hmem
        · exact absurd (Nat.lt_of_lt_of_le hlt (Nat.le_of_succ_le sz₃)) (Nat.lt_irrefl _)
        · rw [List.mem_singleton.mp hmem] at hlt; exact Nat.lt_irrefl _ hlt
      refine hQ _ s' hk ?_ ?_ ?_ ⟨t', rfl⟩
      · refine AllBare.movedS (s := { s₃ with gens := s₃.gens.push gs, toks := tk, heap := h₅ }) ?_ hm
        refine AllBare.push ?_ hgb
        rw [r₃.gens]
        show AllBare s₂.gens
        rw [r₂.gens, r₁.gens]
        exact hbare
      · rw [hm.os]
        show s₃.os = s.os
        rw [r₃.os]
        show s₂.os = s.os
        rw [r₂.os, r₁.os]
      · have hcl := (hT.keeps e₂).lt
        refine T₃.at fun b hb o e => ?_
        have hlt : b < s₂.heap.objs.size := by rcases hb with rfl | rfl; exact hcl.1; exact hcl.2
        refine hm.heap b o (fun hmem => ?_) (hk₅ _ _ e)
        rcases List.mem_cons.mp hmem with rfl | hmem
        · exact absurd (Nat.lt_of_lt_of_le hlt (Nat.le_of_succ_le sz₃)) (Nat.lt_irrefl _)
        · rw [List.mem_singleton.mp hmem] at hlt; exact Nat.lt_irrefl _ hlt

theorem EvT.plain {h : Heap} {e : Expr} {b : Bool} (he : EvP prog w A env h e (Is (.bool b))) (hs : ∀ whole, isTrue e env whole = (do let v ← whole; standAt e.pos; holding [v] (truthy v)) := by intro _; rfl) : EvT prog w A env h e b := by
  intro Q E s hs' hQ
  refine isTrue_plain (he _ _ s hs' ?_) (hs _)
  rintro _ s₁ r₁ e₁ rfl
  exact wpAny_truthy_bool (hQ s₁ r₁ e₁)

theorem EvP.lenStr {h : Heap} {e : Expr} {x : Str} {np pos : Pos} {y : Str} (hf : EvP prog w A env h (.Name x np) (Is (.builtin "len"))) (he : EvP prog w A env h e (IsS y)) (hfit : (y.length : Int) < 2 ^ 63)
    (hs : starEach [e] env = [(false, eval e env)] := by rfl) : EvP prog w A env h (.Call (.Name x np) [e] [] pos) (IsI y.length) := by
  intro Q E s hs' hQ
  refine Call_name1 hs (hf _ _ s hs' ?_)
  rintro _ s₁ r₁ e₁ rfl
  refine callWith_builtin1 (he _ _ _ e₁ ?_)
  rintro _ s₂ r₂ e₂ ⟨t, rfl⟩
  exact P.len_str (by omega) (hQ _ _ (r₁.trans' (r₂.trans' ⟨rfl, rfl, rfl⟩)) e₂ ⟨_, rfl⟩)

theorem cells_ascii {x : Str} (hx : ∀ a ∈ x.cps.toList, a ∈ alphabet) (ha : Txt.isascii x = true) : cellsOf x = x.length := by
  have h : ∀ a ∈ x.cps.toList, cellOf a = 1 := by
    intro a hm
    have h1 := hx a hm
    have h2 : a < 128 := by
      unfold Txt.isascii at ha
      rw [← Array.all_toList, List.all_eq_true] at ha
      simpa using ha a hm
    unfold alphabet at h1
    simp only [List.mem_cons, List.not_mem_nil, or_false] at h1
    rcases h1 with rfl | rfl | rfl | rfl | rfl | rfl | rfl <;> first | rfl | omega
  unfold cellsOf
  have : ∀ l : List Nat, (∀ a ∈ l, cellOf a = 1) → (l.map cellOf).sum = l.length := by
    intro l
    induction l with
    | nil => intro _; rfl
    | cons a l ih =>
      intro hl
      rw [List.map_cons, List.sum_cons, hl a List.mem_cons_self, ih fun b hb => hl b (List.mem_cons_of_mem _ hb)]
      simp only [List.length_cons]; push_cast; omega
  rw [this _ h]
  simp [Str.length]

theorem disp_spec {f : Addr} {x : Str} {t : Tok} {Q : Value → Shared → Prop} (hh : A.handled = none) (hd : A.depth + 1 < recursionLimit) (Gr : Grd mg mb s.heap) (N : Nms mg mb) (hM : ∃ bm ob, BMod s.heap mainGlobals mg bm ob)
    (hT : Tab c P s.heap) (hf : DispAt s.heap f c P) (hbare : AllBare s.gens) (hx : ∀ a ∈ x.cps.toList, a ∈ alphabet) (hsz : x.cps.size ≤ 2 ^ 20)
    (hQ : ∀ v s', (∀ b o, b ≠ P → s.heap.get? b = some o → s'.heap.get? b = some o) → AllBare s'.gens → s'.os = s.os → Tab c P s'.heap → IsI (cellsOf x) v → Q v s') :
    wpAny (model prog w) A (call (.ref f) [.str x t]) Q E s := by
  obtain ⟨o, pm, doc, dT, odT, n, ho, hdat, hcd, hdT, hdd⟩ := hf.fn
  obtain ⟨bm, ob, hM⟩ := hM
  refine wpAny_call (codeAny_call_def (binds := [("line", .str x t), ("offset", .none)]) (body := dispD.1.body) (by omega) ho hdat Gr.nolimit hcd rfl (BindsTo.of_defaults rfl hdT hdd rfl rfl)
    (show ∀ x ∈ dispD.1.scope.names, x.2 ≠ .cell by decide) (locs (scope := dispD.1.scope) (by rfl)) ?_)
  intro h₀ hns hk
  suffices H : ∀ s₀ : Shared, Rest s s₀ → Sta s.heap s.heap.objs.size (fun x' => ([("line", Value.str x t), ("offset", Value.none)] : List (Str × Value)).reverse.lookup x') [] s₀.heap →
      wpAny (model prog w) (A.deeper (envOf dispD.1.name dispD.1.scope s.heap.objs.size f (.ref c))) (execs dispD.1.body (envOf dispD.1.name dispD.1.scope s.heap.objs.size f (.ref c)))
        (fun fl s' => Q (match fl with | .ret v => v | _ => .none) s') (fun _ _ => False) s₀ by
    exact wpAny_mono (H _ ⟨rfl, rfl, rfl⟩ ⟨⟨hns, hk, Nat.le_refl _⟩, News.nil⟩) (fun _ _ q => q) fun _ _ q => q.elim
  intro s₀ R₀ S
  have G₀ := Gr.keeps S.fr.keep
  have hlen : (x.length : Int) < 2 ^ 63 := by unfold Str.length; omega
  refine wpAny_execs_cons (if_ (b := true) (EvT.cmp (EvP.loc S.fr.ns (by walk_at "look") (P := Is .none) rfl) EvP.litNone ?_) ?_ (by intro h; cases h))
  · rintro _ _ Q' E' s' hs rfl rfl hQ'
    exact is_none_none (hQ' s' .rfl' hs)
  intro _ s₁ R₁ e₁
  have S₁ : Sta _ _ _ [] s₁.heap := e₁ ▸ S
  have G₁ := Gr.keeps S₁.fr.keep
  refine wpAny_execs_cons (assignP S₁ (EvP.lenStr (EvP.bt G₁ N.len.1 N.len.2) (EvP.loc S₁.fr.ns (by walk_at "look") ⟨t, rfl⟩) hlen) ?_)
  rintro v s₂ R₂ ⟨u, rfl⟩ S₂
  refine wpAny_execs_nil ?_
  refine wpAny_execs_cons (if_ (b := Txt.isascii x) (EvT.plain ?_) ?_ ?_)
  · intro Q' E' s' hs' hQ'
    refine Call_method0 rfl rfl ((EvP.loc S₂.fr.ns (by walk_at "look") (P := Is (.str x t)) rfl : EvP prog w _ _ _ _ _) _ _ s' hs' ?_)
    rintro _ s₃ R₃ e₃ rfl
    exact SB.isascii (hQ' _ s₃ R₃ e₃ rfl)
  · intro ha s₃ R₃ e₃
    have S₃ : Sta _ _ _ [] s₃.heap := e₃ ▸ S₂
    refine wpAny_execs_cons (return_ (EvP.loc S₃.fr.ns (by walk_at "look") (P := IsI x.length) ⟨u, rfl⟩).x ?_)
    rintro v s₄ R₄ E₄ ⟨hv, _⟩
    have R := R₀.trans' (R₁.trans' (R₂.trans' (R₃.trans' R₄)))
    refine hQ v s₄ (fun b o _ e => E₄ _ _ (S₃.old e)) (by rw [R.gens]; exact hbare) R.os (hT.keeps fun b o e => E₄ _ _ (S₃.old e)) ?_
    rw [cells_ascii hx ha]; exact hv
  · intro _ s₃ R₃ e₃
    have S₃ : Sta _ _ _ [] s₃.heap := e₃ ▸ S₂
    have G₃ := Gr.keeps S₃.fr.keep
    have R := R₀.trans' (R₁.trans' (R₂.trans' R₃))
    refine wpAny_execs_nil ?_
    refine wpAny_execs_cons (wpAny_Pass ?_)
    refine wpAny_execs_cons (wpAny_Return_some ?_)
    refine genexp_sum (c := c) (P := P) (mg := mg) (x := x) (bm := bm) (ob := ob) hh hd rfl rfl (hT.keeps S₃.fr.keep) (hM.keeps S₃.fr.keep) G₃.nolimit (by rw [R.gens]; exact hbare) (EvP.bt G₃ N.sum.1 N.sum.2) ?_ hsz ?_ ?_
    · refine (EvX.sliceStr (x := x) (j := x.length) (EvP.loc S₃.fr.ns (by walk_at "look") ⟨t, rfl⟩) (EvP.loc S₃.fr.ns (by walk_at "look") ⟨u, rfl⟩) (by unfold Str.length; rw [sizeLine_eq]; omega)).mono ?_
      intro v h' _ hv
      rw [slice_whole] at hv; exact hv
    · intro A' C code h m a ta ha hmg hn hm
      obtain ⟨tw, hw⟩ := N.wcs
      have hal := hx a ha
      refine EvX.ifexp (b := wide a) (EvT.inStr (y := widthText a) (x := "WF") (EvP.eaw (EvP.glob hmg N.eaw rfl) (EvP.loc hn hm ⟨ta, rfl⟩) (width_small a hal)) (EvP.glob hmg hw ⟨tw, rfl⟩) (width_wide a hal)) ?_ ?_
      · intro hb
        exact EvP.lit.x.mono fun v h' _ hv => by rw [show cellOf a = 2 by simp [cellOf, hb]]; exact hv.1
      · intro hb
        exact EvP.lit.x.mono fun v h' _ hv => by rw [show cellOf a = 1 by simp [cellOf, hb]]; exact hv.1
    · intro v s₄ hk₄ hb₄ ho₄ hT₄ hv
      exact hQ v s₄ (fun b o hb e => hk₄ b o hb (S₃.old e)) hb₄ (ho₄.trans R.os) hT₄ hv
end
end Mine
namespace Mine
local macro_rules | `(tactic| walk_at "look") => `(tactic| first | assumption | exact upd_same _ _ _ | (refine (upd_other (by decide)).trans ?_; walk_at "look") | with_unfolding_all rfl)

/-- the heap without the place P -/
def hole (h : Heap) (P : Addr) : Heap := h.update P fun _ => { cls := .none, data := .freed }
theorem hole_self (h : Heap) (P : Addr) : (hole h P).get? P = none := by
  unfold hole Heap.update Heap.get?
  obtain ⟨objs, l⟩ := h
  simp only [Array.getElem?_modify, if_true]
  cases objs[P]? <;> rfl
theorem hole_other {h : Heap} {P b : Addr} (hb : b ≠ P) : (hole h P).get? b = h.get? b := Heap.get?_update_other h _ (Ne.symm hb)
theorem hole_ext (h : Heap) (P : Addr) : Ext (hole h P) h := fun b o e => by
  by_cases hb : b = P
  · subst hb; rw [hole_self] at e; cases e
  · rw [hole_other hb] at e; exact e
theorem Ext.hole {h₀ h : Heap} {P : Addr} (k : Ext h₀ h) (hP : h₀.get? P = none) : Ext h₀ (hole h P) := fun b o e => by
  rw [hole_other (fun q => by rw [q, hP] at e; cases e)]; exact k b o e
theorem hole_size (h : Heap) (P : Addr) : (hole h P).objs.size = h.objs.size := Heap.size_update h P _

theorem Sta.hole {h h' : Heap} {L P : Addr} {m : Str → Option Value} {news : List (Addr × Obj)} {o : Obj} (S : Sta h L m news h') (e : h.get? P = some o) : Sta (hole h P) L m ((P, o) :: news) h' := by
  have hPL : P ≠ L := Nat.ne_of_lt (Nat.lt_of_lt_of_le (Heap.lt_size e) S.fr.above)
  refine ⟨⟨S.fr.ns, fun b o e => S.fr.keep b o (hole_ext h P b o e), by rw [hole_size]; exact S.fr.above⟩, fun p hp => ?_⟩
  rcases List.mem_cons.mp hp with rfl | hp
  · exact ⟨S.old e, hPL, hole_self h P⟩
  · have := S.nw p hp
    refine ⟨this.1, this.2.1, ?_⟩
    cases q : (Mine.hole h P).get? p.1 with
    | none => rfl
    | some o' => have := hole_ext h P _ _ q; rw [(S.nw p hp).2.2] at this; cases this

/-- the object at P makes a code table in every heap that holds h₀ -/
def TabV (h₀ : Heap) (c P : Addr) (o : Obj) : Prop := ∀ h, Ext h₀ h → h.get? P = some o → Tab c P h
theorem TabV.of {h₀ h : Heap} {c P : Addr} {o : Obj} (T : Tab c P h) (k : Ext h₀ h) (e : h.get? P = some o) (hc : ∃ oc, h₀.get? c = some oc) : TabV h₀ c P o := by
  intro h' k' e'
  refine T.at fun b hb o' e₁ => ?_
  rcases hb with rfl | rfl
  · obtain ⟨oc, hc⟩ := hc
    rw [k _ _ hc] at e₁; cases e₁; exact k' _ _ hc
  · rw [e] at e₁; cases e₁; exact e'
theorem Tab.obj {h : Heap} {c P : Addr} (T : Tab c P h) : ∃ o, h.get? P = some o ∧ o.cls = .none := by
  obtain ⟨ps, _, _, b⟩ := T; exact ⟨_, b, rfl⟩
theorem Tab.ne {h : Heap} {c P : Addr} (T : Tab c P h) : c ≠ P := by
  obtain ⟨ps, ⟨o, vs, file, tf, flags, tg, inF, text, tt, op, a, r1, r2, r3, r4, r5, r6, b, _, _, r⟩, _⟩ := T; exact r

theorem DispAt.keeps {h h' : Heap} {f c P : Addr} (x : DispAt h f c P) (k : Ext h h') : DispAt h' f c P := by
  obtain ⟨o, pm, doc, dT, odT, n, a, b, cr, d, e⟩ := x.fn
  exact ⟨⟨o, pm, doc, dT, odT, n, k _ _ a, b, cr.keeps k, k _ _ d, e⟩⟩

/-- the world that the defs stand in, but for the place P -/
structure Wb (mg mb : Str → Option Value) (c P f : Addr) (h₀ : Heap) : Prop where
  hole : h₀.get? P = none
  oc : ∃ oc, h₀.get? c = some oc
  gr : Grd mg mb h₀
  nms : Nms mg mb
  bm : ∃ bm ob, BMod h₀ mainGlobals mg bm ob
  disp : DispAt h₀ f c P
  name : mg "_display_width" = some (.ref f)
theorem Wb.keeps {mg mb : Str → Option Value} {c P f : Addr} {h₀ h₁ : Heap} (W : Wb mg mb c P f h₀) (k : Ext h₀ h₁) (hP : h₁.get? P = none) : Wb mg mb c P f h₁ :=
  ⟨hP, let ⟨o, e⟩ := W.oc; ⟨o, k _ _ e⟩, W.gr.keeps k, W.nms, let ⟨bm, ob, e⟩ := W.bm; ⟨bm, ob, e.keeps k⟩, W.disp.keeps k, W.name⟩
theorem Wb.holed {mg mb : Str → Option Value} {c P f : Addr} {h₀ h₁ : Heap} (W : Wb mg mb c P f h₀) (k : Ext h₀ h₁) : Wb mg mb c P f (Mine.hole h₁ P) :=
  W.keeps (k.hole W.hole) (hole_self _ _)

/-- a list's object -/
def LObj (vs : List Value) (o : Obj) : Prop := o.cls = .type "list" ∧ ∃ n, o.data = .seq vs.toArray n
theorem LObj.isList {h : Heap} {l : Addr} {vs : List Value} {o : Obj} (x : LObj vs o) (e : h.get? l = some o) : h.IsList l vs.toArray := ⟨o, e, x.1, x.2⟩

section
variable {h₀ h h' : Heap} {L c P : Addr} {m : Str → Option Value} {news : List (Addr × Obj)} {o : Obj}
/-- all but P was kept -/
theorem Sta.after (S : Sta h₀ L m ((P, o) :: news) h) (hc : ∃ oc, h₀.get? c = some oc) (k : ∀ b o, b ≠ P → h.get? b = some o → h'.get? b = some o) (T : Tab c P h') (hd : ∀ p ∈ news, p.1 ≠ P) :
    ∃ o', TabV h₀ c P o' ∧ Sta h₀ L m ((P, o') :: news) h' := by
  obtain ⟨o', e', _⟩ := T.obj
  have hp := S.nw (P, o) List.mem_cons_self
  have k₀ : Ext h₀ h' := fun b o e => k b o (fun q => by rw [q, hp.2.2] at e; cases e) (S.old e)
  refine ⟨o', TabV.of T k₀ e' hc, ⟨?_, k₀, S.fr.above⟩, fun q hq => ?_⟩
  · obtain ⟨oL, es, ep, ho, r⟩ := S.fr.ns
    exact ⟨oL, es, ep, k _ _ (Ne.symm hp.2.1) ho, r⟩
  · rcases List.mem_cons.mp hq with rfl | hq
    · exact ⟨e', hp.2⟩
    · exact ⟨k _ _ (hd q hq) (S.nw q (List.mem_cons_of_mem _ hq)).1, (S.nw q (List.mem_cons_of_mem _ hq)).2⟩
end

section
variable {prog : Program} {w : World} {A : Around} {env : Env} {h : Heap}

theorem EvX.join {o e : Expr} {apos pos : Pos} {sep : Str} {ys : List Str} {R : Value → Heap → Prop} (ho : EvP prog w A env h o (IsS sep)) (he : EvX prog w A env h e R)
    (k : ∀ v h', R v h' → ∃ D items, v = .ref D ∧ h'.IsList D items ∧ StrsAre items.toList ys) (hok : (ys.map (·.length)).sum + ys.length * sep.length ≤ 16777216)
    (hbase : attributeBase o "join" env (eval o env) = eval o env := by rfl) (hs : starEach [e] env = [(false, eval e env)] := by rfl) (hline : (apos.endLine == pos.line) = true := by rfl) :
    EvX prog w A env h (.Call (.Attribute o "join" apos) [e] [] pos) (fun v _ => IsS (Txt.join sep ys) v) := by
  intro Q E s hs' hQ
  refine Call_method1 hbase hs hline (ho _ _ s hs' ?_)
  rintro _ s₁ r₁ e₁ ⟨t, rfl⟩
  refine ⟨"str", "str.join", F.plainAttrs_str, F.slot_str_join, F.type_str_join, typeIs_str _ _ _, (fun _ e => nomatch e), ?_⟩
  refine Calls.callWith_builtin rfl (Calls.evalArgs_plain (Calls.spliced_cons (he _ _ _ e₁ ?_)))
  intro v s₂ r₂ e₂ hR
  obtain ⟨D, items, rfl, hl, hi⟩ := k _ _ hR
  refine Calls.spliced_nil (join_list hl hi hok fun t' k' => ?_)
  exact hQ _ _ (r₁.trans' (r₂.trans' ⟨rfl, rfl, rfl⟩)) e₂ ⟨t', rfl⟩

theorem EvX.sliceList {value lower upper : Expr} {p pos : Pos} {l : Addr} {items : Array Value} {i j : Int} (hv : EvP prog w A env h value (Is (.ref l))) (hlo : EvP prog w A env h lower (IsI i)) (hup : EvP prog w A env h upper (IsI j))
    (hl : h.IsList l items) (hsz : items.size ≤ sizeLine) (ht : ∀ o r, letTemporaryGo value o r = pure () := by intro _ _; with_unfolding_all rfl) :
    EvX prog w A env h (.Subscript value (.Slice (some lower) (some upper) none p) pos) (fun v h' => ∃ D, v = .ref D ∧ h'.IsList D (slicePick items (some i) (some j) none)) := by
  intro Q E s hs' hQ
  refine wpAny_Subscript_list_slice (hv _ _ s hs' ?_) ht
  rintro _ s₁ r₁ e₁ rfl
  rw [evalPart_some, evalPart_some]
  refine hlo _ _ _ e₁ ?_
  rintro _ s₂ r₂ e₂ ⟨t, rfl⟩
  refine hup _ _ _ e₂ ?_
  rintro _ s₃ r₃ e₃ ⟨u, rfl⟩
  refine ⟨l, items, some i, some j, rfl, e₃ ▸ hl, hsz, .int _ _, .int _ _, ?_⟩
  refine hQ _ _ (r₁.trans' (r₂.trans' (r₃.trans' ⟨rfl, rfl, rfl⟩))) ?_ ⟨_, rfl, ?_⟩
  · intro b o e
    rw [← e₃] at e
    exact Heap.get?_push_of_some _ (Heap.get?_push_of_some _ e)
  · have := Heap.get?_push_size (s₃.heap.push { cls := .type "slice", data := .fields #[Value.int i t, Value.int j u, .none] }) (o := { cls := .type "list", data := .seq (slicePick items (some i) (some j) none) }) rfl
    rw [Heap.size_push] at this
    exact ⟨_, this, rfl, _, rfl⟩

theorem strs_take : ∀ {vs : List Value} {ys : List Str}, StrsAre vs ys → ∀ k : Nat, StrsAre (vs.take k) (ys.take k)
  | _, _, _, 0 => by simpa using StrsAre.nil
  | _, _, .nil, _ + 1 => .nil
  | _, _, .cons y t r, k + 1 => .cons y t (strs_take r k)
theorem strs_drop : ∀ {vs : List Value} {ys : List Str}, StrsAre vs ys → ∀ k : Nat, StrsAre (vs.drop k) (ys.drop k)
  | _, _, r, 0 => r
  | _, _, .nil, _ + 1 => .nil
  | _, _, .cons _ _ r, k + 1 => strs_drop r k
theorem strs_length : ∀ {vs : List Value} {ys : List Str}, StrsAre vs ys → vs.length = ys.length
  | _, _, .nil => rfl
  | _, _, .cons _ _ r => by simp [strs_length r]

/-- the words from i to j, a blank between -/
def rowOf (ws : List Str) (i j : Nat) : Str := Txt.join " " ((ws.drop i).take (j - i))

theorem EvX.row {value lower upper o : Expr} {p pos apos cpos : Pos} {l : Addr} {vs : List Value} {ws : List Str} {i j : Nat} {i' j' : Int} (ho : EvP prog w A env h o (IsS " ")) (hv : EvP prog w A env h value (Is (.ref l)))
    (hlo : EvP prog w A env h lower (IsI i')) (hup : EvP prog w A env h upper (IsI j')) (ei : i' = i) (ej : j' = j) (hl : h.IsList l vs.toArray) (hi : StrsAre vs ws) (hij : i ≤ j) (hj : j ≤ ws.length) (hsz : ws.length ≤ 16) (hw : ∀ y ∈ ws, y.length ≤ 16)
    (ht : ∀ o r, letTemporaryGo value o r = pure () := by intro _ _; with_unfolding_all rfl)
    (hbase : attributeBase o "join" env (eval o env) = eval o env := by rfl) (hs : starEach [.Subscript value (.Slice (some lower) (some upper) none p) pos] env = [(false, eval (.Subscript value (.Slice (some lower) (some upper) none p) pos) env)] := by rfl) (hline : (apos.endLine == cpos.line) = true := by rfl) :
    EvX prog w A env h (.Call (.Attribute o "join" apos) [.Subscript value (.Slice (some lower) (some upper) none p) pos] [] cpos) (fun v _ => IsS (rowOf ws i j) v) := by
  subst ei ej
  have hlen := strs_length hi
  refine EvX.join (ys := (ws.drop i).take (j - i)) ho (EvX.sliceList hv hlo hup hl (by rw [List.size_toArray, sizeLine_eq]; omega) ht) ?_ ?_ hbase hs hline
  · rintro v h' ⟨D, rfl, hD⟩
    refine ⟨D, _, rfl, hD, ?_⟩
    rw [slicePick_run _ _ _ (by simp; omega) hij]
    simpa using strs_take (strs_drop hi i) (j - i)
  · have h1 : ∀ y ∈ (ws.drop i).take (j - i), y.length ≤ 16 := fun y hy => hw y (List.mem_of_mem_drop (List.mem_of_mem_take hy))
    have h2 := StrLaws.sumLen_le (B := 16) _ h1
    have h3 : ((ws.drop i).take (j - i)).length ≤ 16 := by simp; omega
    have h4 : (" " : Str).length = 1 := by decide
    rw [h4]; omega
end

section
variable {prog : Program} {w : World} {A : Around} {E : Value → Shared → Prop} {s : Shared} {env : Env} {mg mb : Str → Option Value} {h₀ : Heap} {c P f : Addr} {m : Str → Option Value} {news : List (Addr × Obj)} {o : Obj}

/-- the width of a text, asked in a frame -/
theorem callDisp {np pos : Pos} {e : Expr} {x : Str} {Q : Value → Shared → Prop} (hh : A.handled = none) (hd : A.depth + 1 < recursionLimit) (W : Wb mg mb c P f h₀) (hT : TabV h₀ c P o) (S : Sta h₀ env.locals m ((P, o) :: news) s.heap) (hne : ∀ p ∈ news, p.1 ≠ P) (hb : AllBare s.gens)
    (he : EvX prog w A env s.heap e (fun v _ => IsS x v)) (hx : ∀ a ∈ x.cps.toList, a ∈ alphabet) (hsz : x.cps.size ≤ 2 ^ 20)
    (hQ : ∀ v s' o', IsI (cellsOf x) v → AllBare s'.gens → s'.os = s.os → TabV h₀ c P o' → Sta h₀ env.locals m ((P, o') :: news) s'.heap → Q v s')
    (hs : starEach [e] env = [(false, eval e env)] := by rfl)
    (hk : env.scope.kind = .function := by rfl) (hl : env.kindOf "_display_width" = some .globalImplicit := by rfl) (hg : env.globals = mainGlobals := by rfl) :
    wpAny (model prog w) A (eval (.Call (.Name "_display_width" np) [e] [] pos) env) Q E s := by
  refine Call_name1 hs ((EvP.glob (W.gr.keeps S.fr.keep).g W.name rfl hk hl hg : EvP prog w A env s.heap (.Name "_display_width" np) (Is (.ref f))) _ _ s rfl ?_)
  rintro _ s₁ r₁ e₁ rfl
  obtain ⟨oF, fd, ho, hdat⟩ : ∃ oF fd, h₀.get? f = some oF ∧ oF.data = .func fd := by
    obtain ⟨oF, pm, doc, dT, odT, n, ho, hdat, _⟩ := W.disp.fn
    exact ⟨oF, _, ho, hdat⟩
  refine Calls.callWith_function (o := oF) (fd := fd) (Calls.evalArgs_plain (Calls.spliced_cons (he _ _ _ e₁ ?_)))
  rintro _ s₂ r₂ e₂ ⟨t, rfl⟩
  have S₂ := S.ext e₂
  refine Calls.spliced_nil ⟨⟨S₂.old ho, hdat⟩, ?_⟩
  have k := S₂.fr.keep
  have hget := S₂.get (a := P) List.mem_cons_self
  refine disp_spec (c := c) (P := P) hh hd (W.gr.keeps k) W.nms (let ⟨bm, ob, e⟩ := W.bm; ⟨bm, ob, e.keeps k⟩) (hT _ k hget) (W.disp.keeps k) (by rw [r₂.gens, r₁.gens]; exact hb) hx hsz ?_
  intro v s₃ k₃ b₃ o₃ T₃ hv
  obtain ⟨o', T', S'⟩ := S₂.after W.oc k₃ T₃ hne
  exact hQ v s₃ o' hv b₃ (o₃.trans (r₂.os.trans r₁.os)) T' S'

/-- what gives a new list in the frame -/
def EvL (prog : Program) (w : World) (A : Around) (env : Env) (h₀ : Heap) (m : Str → Option Value) (e : Expr) (R : List Value → Prop) : Prop :=
  ∀ (news : List (Addr × Obj)) (Q : Value → Shared → Prop) (E : Value → Shared → Prop) (s : Shared), Sta h₀ env.locals m news s.heap →
    (∀ D vs o s', Rest s s' → R vs → LObj vs o → Sta h₀ env.locals m ((D, o) :: news) s'.heap → (∀ p ∈ news, p.1 ≠ D) → Q (.ref D) s') → wpAny (model prog w) A (eval e env) Q E s

theorem sta_ne {D : Addr} {L : Addr} {h : Heap} (S : Sta h₀ L m news h) (hD : h.objs.size ≤ D) : ∀ p ∈ news, p.1 ≠ D := fun p hp => Nat.ne_of_lt (Nat.lt_of_lt_of_le (S.lt p hp) hD)

theorem EvL.mono {e : Expr} {R R' : List Value → Prop} (x : EvL prog w A env h₀ m e R) (k : ∀ vs, R vs → R' vs) : EvL prog w A env h₀ m e R' :=
  fun news Q E s S hQ => x news Q E s S fun D vs o s' r hr => hQ D vs o s' r (k vs hr)

theorem EvL.lit1 {e : Expr} {pos : Pos} {P : Value → Prop} (he : ∀ news h, Sta h₀ env.locals m news h → EvP prog w A env h e P) (hs : starEach [e] env = [(false, eval e env)] := by rfl) :
    EvL prog w A env h₀ m (.List [e] pos) (fun vs => ∃ v, vs = [v] ∧ P v) := by
  intro news Q E s S hQ
  refine List_ ?_
  rw [hs]
  refine Calls.spliced_cons (he _ _ S _ _ s rfl ?_)
  intro v s₁ r₁ e₁ p
  have S₁ : Sta h₀ env.locals m news s₁.heap := e₁ ▸ S
  refine Calls.spliced_nil (newList_N S₁.fr S₁.nw (fun h' F' N' => ?_) (by simp [sizeLine_eq]))
  exact hQ _ [v] _ _ (r₁.trans' ⟨rfl, rfl, rfl⟩) ⟨v, rfl, p⟩ ⟨rfl, _, rfl⟩ ⟨F', N'⟩ (sta_ne S₁ (Nat.le_refl _))

theorem fold_rep (v : Value) : ∀ (k : Nat) (acc : Array Value), List.foldl (fun x1 x2 => x1 ++ x2) acc (List.replicate k #[v]) = (acc.toList ++ List.replicate k v).toArray
  | 0, acc => by simp
  | k + 1, acc => by
    rw [List.replicate_succ, List.foldl_cons, fold_rep v k]
    simp [List.replicate_succ]

theorem EvL.rep {e r : Expr} {lp pos : Pos} {P : Value → Prop} {n : Nat} {z : Int} (he : ∀ news h, Sta h₀ env.locals m news h → EvP prog w A env h e P) (hr : ∀ news h, Sta h₀ env.locals m news h → EvP prog w A env h r (IsI z)) (hz : z = n) (hn : n ≤ 100)
    (hs : starEach [e] env = [(false, eval e env)] := by rfl) :
    EvL prog w A env h₀ m (.BinOp (.List [e] lp) .Mult r pos) (fun vs => ∃ v, vs = List.replicate n v ∧ P v) := by
  subst hz
  intro news Q E s S hQ
  refine wpAny_BinOp (List_ ?_)
  rw [hs]
  refine Calls.spliced_cons (he _ _ S _ _ s rfl ?_)
  intro v s₁ r₁ e₁ p
  have S₁ : Sta h₀ env.locals m news s₁.heap := e₁ ▸ S
  refine Calls.spliced_nil (newList_N S₁.fr S₁.nw (fun h' F' N' => ?_) (by simp [sizeLine_eq]))
  have S₂ : Sta h₀ env.locals m _ h' := ⟨F', N'⟩
  refine hr _ _ S₂ _ _ { s₁ with heap := h' } rfl ?_
  rintro _ s₃ r₃ e₃ ⟨u, rfl⟩
  have e₃ : s₃.heap = h' := e₃
  have S₃ := e₃.symm ▸ S₂
  refine PyProof.Rows.mul_list S₃.fr S₃.nw (S₃.get List.mem_cons_self) (by omega) (by omega) (by simp; omega) fun h₄ F₄ N₄ => ?_
  have r₃' : Rest s₁ s₃ := ⟨r₃.gens, r₃.os, r₃.drawn⟩
  refine hQ _ (List.replicate n v) { cls := .type "list", data := .seq (List.foldl (fun x1 x2 => x1 ++ x2) #[] (List.replicate (if (#[v] : Array Value).isEmpty = true then 0 else (n : Int).toNat) #[v])) } _ (r₁.trans' (r₃'.trans' ⟨rfl, rfl, rfl⟩)) ⟨v, rfl, p⟩ ⟨rfl, 0, ?_⟩ ((⟨F₄, N₄⟩ : Sta h₀ env.locals m _ h₄).drop fun q hq => ?_) ?_
  · show Data.seq (List.foldl _ #[] (List.replicate (if (#[v] : Array Value).isEmpty = true then 0 else (n : Int).toNat) #[v])) 0 = _
    rw [if_neg (by simp), fold_rep]; simp
  · rcases List.mem_cons.mp hq with rfl | hq
    · exact List.mem_cons_self
    · exact List.mem_cons_of_mem _ (List.mem_cons_of_mem _ hq)
  · exact sta_ne S₃.tail (Nat.le_refl _)

theorem EvL.add {l r : Expr} {pos : Pos} {R R' : List Value → Prop} (hl : EvL prog w A env h₀ m l R) (hr : EvL prog w A env h₀ m r R') (hz : ∀ a, R a → a.length ≤ 1000) (hz' : ∀ a, R' a → a.length ≤ 1000) :
    EvL prog w A env h₀ m (.BinOp l .Add r pos) (fun vs => ∃ a b, R a ∧ R' b ∧ vs = a ++ b) := by
  intro news Q E s S hQ
  refine wpAny_BinOp (hl news _ _ s S ?_)
  intro D a o s₁ r₁ ha oa S₁ n₁
  refine hr _ _ _ s₁ S₁ ?_
  intro D' b o' s₂ r₂ hb ob S₂ n₂
  have hl₂ := oa.isList (S₂.get (a := D) (o := o) (List.mem_cons_of_mem _ List.mem_cons_self))
  have hr₂ := ob.isList (S₂.get (a := D') (o := o') List.mem_cons_self)
  refine PyProof.Rows.add_lists S₂.fr S₂.nw hl₂ hr₂ (fun h' F' N' => ?_) (by have := hz a ha; have := hz' b hb; rw [sizeLine_eq]; omega)
  refine hQ _ (a ++ b) { cls := .type "list", data := .seq (a ++ b).toArray } _ (r₁.trans' (r₂.trans' ⟨rfl, rfl, rfl⟩)) ⟨a, b, ha, hb, rfl⟩ ⟨rfl, _, rfl⟩ ((⟨F', N'⟩ : Sta h₀ env.locals m _ h').drop fun q hq => ?_) ?_
  · rcases List.mem_cons.mp hq with rfl | hq
    · exact List.mem_cons_self
    · exact List.mem_cons_of_mem _ (List.mem_cons_of_mem _ (List.mem_cons_of_mem _ hq))
  · exact sta_ne S₂.tail.tail (Nat.le_refl _)

theorem assignL {x : Str} {xp pos : Pos} {e : Expr} {R : List Value → Prop} {Q : Flow → Shared → Prop} (S : Sta h₀ env.locals m news s.heap) (he : EvL prog w A env h₀ m e R)
    (h : ∀ D vs o s', Rest s s' → R vs → LObj vs o → Sta h₀ env.locals (upd m x (.ref D)) ((D, o) :: news) s'.heap → (∀ p ∈ news, p.1 ≠ D) → Q .next s')
    (hs : swapsWith e (some (.Name x xp)) pos.line env = pure false := by rfl)
    (hl : env.kindOf x = some .local := by rfl) (hp : (env.scope.kind == .class || (env.scope.kind == .module && env.locals != env.globals)) = false := by rfl) :
    wpAny (model prog w) A (exec (.Assign [.Name x xp] e pos) env) Q E s := by
  refine wpAny_Assign_Name (he _ _ _ s S fun D vs o s₁ r₁ hR ho S₁ hne => ?_) hs
  exact store_ S₁ (fun s₂ r₂ hs' S' => h D vs o s₂ (r₁.trans' r₂) hR ho S' hne) hl hp

/-- l[i] = e -/
theorem setItem_ {value o i : Expr} {sp pos : Pos} {l : Addr} {vs : List Value} {k : Int} {ol : Obj} {pre post : List (Addr × Obj)} {P : Value → Prop} {Q : Flow → Shared → Prop} (S : Sta h₀ env.locals m (pre ++ (l, ol) :: post) s.heap) (hol : LObj vs ol)
    (hv : EvP prog w A env s.heap value P) (ho : EvP prog w A env s.heap o (Is (.ref l))) (hi : EvP prog w A env s.heap i (IsI k)) (h0 : 0 ≤ k) (h1 : k < vs.length) (hfit : vs.length ≤ 1000)
    (hpre : ∀ p ∈ pre, p.1 ≠ l) (hpost : ∀ p ∈ post, p.1 ≠ l)
    (h : ∀ v ol' s', Rest s s' → P v → LObj (vs.set k.toNat v) ol' → Sta h₀ env.locals m (pre ++ (l, ol') :: post) s'.heap → Q .next s')
    (hs : swapsWith value (some (.Subscript o i sp)) pos.line env = pure false := by rfl) :
    wpAny (model prog w) A (exec (.Assign [.Subscript o i sp] value pos) env) Q E s := by
  refine wpAny_Assign_Subscript (hv _ _ s rfl ?_) hs
  intro v s₁ r₁ e₁ p
  refine ho _ _ _ e₁ ?_
  rintro _ s₂ r₂ e₂ rfl
  refine hi _ _ _ e₂ ?_
  rintro _ s₃ r₃ e₃ ⟨u, rfl⟩
  have S₃ : Sta h₀ env.locals m (pre ++ (l, ol) :: post) s₃.heap := e₃ ▸ S
  refine wpAny_setItem_list (hol.isList (S₃.get (List.mem_append.mpr (.inr List.mem_cons_self)))) h0 (by omega) (by simpa using h1) fun h' hl' hsb => ?_
  obtain ⟨o', e', c', n', d'⟩ := hl'
  refine h v o' _ (r₁.trans' (r₂.trans' (r₃.trans' ⟨rfl, rfl, rfl⟩))) p ⟨c', n', ?_⟩ (S₃.change hsb e' hpre hpost)
  rw [d']; simp

theorem EvT.or {h : Heap} {x y : Expr} {pos : Pos} {b b' : Bool} (hx : EvT prog w A env h x b) (hy : b = false → EvT prog w A env h y b') : EvT prog w A env h (.BoolOp .Or [x, y] pos) (b || b') := by
  intro Q E s hs hQ
  refine wpAny_isTrue_BoolOp (wpAny_allTrue_Or_cons (hx _ _ s hs fun s₁ r₁ e₁ => ?_))
  cases b with
  | true => exact hQ s₁ r₁ e₁
  | false =>
    simp only [Bool.false_eq_true, if_false]
    refine wpAny_allTrue_Or_cons (hy rfl _ _ s₁ e₁ fun s₂ r₂ e₂ => ?_)
    cases b' with
    | true => exact hQ s₂ (r₁.trans' r₂) e₂
    | false => exact wpAny_allTrue_Or_nil (hQ s₂ (r₁.trans' r₂) e₂)
end
end Mine
namespace Mine

theorem append_cps (x y : Str) : (x ++ y).cps.toList = x.cps.toList ++ y.cps.toList := by
  show (x.cps ++ y.cps).toList = _
  simp
theorem cells_append (x y : Str) : cellsOf (x ++ y) = cellsOf x + cellsOf y := by
  unfold cellsOf; rw [append_cps, List.map_append, List.sum_append]
theorem blank_cps : (" " : Str).cps.toList = [32] := by decide
theorem cells_blank : cellsOf " " = 1 := by unfold cellsOf; rw [blank_cps]; decide

theorem join_al : ∀ ys : List Str, (∀ y ∈ ys, ∀ a ∈ y.cps.toList, a ∈ alphabet) → ∀ a ∈ (Str.join " " ys).cps.toList, a ∈ alphabet
  | [], _, a, h => by simp [Str.join, Str.empty] at h
  | [x], hx, a, h => hx x List.mem_cons_self a h
  | x :: y :: r, hx, a, h => by
    rw [show Str.join " " (x :: y :: r) = x ++ " " ++ Str.join " " (y :: r) from rfl] at h
    rw [append_cps, append_cps] at h
    rcases List.mem_append.mp h with h | h
    · rcases List.mem_append.mp h with h | h
      · exact hx x List.mem_cons_self a h
      · rw [blank_cps] at h
        rw [List.mem_singleton.mp h]; decide
    · exact join_al (y :: r) (fun z hz => hx z (List.mem_cons_of_mem _ hz)) a h
theorem join_cells : ∀ ys : List Str, ys ≠ [] → cellsOf (Str.join " " ys) = (ys.map cellsOf).sum + ((ys.length : Int) - 1)
  | [], h => absurd rfl h
  | [x], _ => by simp [Str.join]
  | x :: y :: r, _ => by
    rw [show Str.join " " (x :: y :: r) = x ++ " " ++ Str.join " " (y :: r) from rfl, cells_append, cells_append, join_cells (y :: r) (by simp), cells_blank]
    simp only [List.map_cons, List.sum_cons, List.length_cons]
    push_cast; omega
theorem join_size : ∀ ys : List Str, (∀ y ∈ ys, y.length ≤ 16) → (Str.join " " ys).cps.size ≤ ys.length * 17
  | [], _ => by simp [Str.join, Str.empty]
  | [x], h => by have := h x List.mem_cons_self; simp [Str.join, Str.length] at *; omega
  | x :: y :: r, h => by
    have h1 := join_size (y :: r) fun z hz => h z (List.mem_cons_of_mem _ hz)
    have h2 := h x List.mem_cons_self
    rw [show Str.join " " (x :: y :: r) = x ++ " " ++ Str.join " " (y :: r) from rfl]
    have e : (x ++ " " ++ Str.join " " (y :: r)).cps.size = x.cps.size + 1 + (Str.join " " (y :: r)).cps.size := by
      show (x.cps ++ (" " : Str).cps ++ _).size = _
      rw [Array.size_append, Array.size_append]; rfl
    rw [e]
    simp only [List.length_cons, Str.length] at *
    omega

/-- what is asked of the words -/
structure WordsOk (ws : List Str) : Prop where
  al : ∀ y ∈ ws, ∀ a ∈ y.cps.toList, a ∈ alphabet
  size : ∀ y ∈ ws, y.length ≤ 16
  few : ws.length ≤ 16

/-- the width of a row, by cells -/
def Wd (cs : List Int) (i j : Nat) : Int := ((cs.drop i).take (j - i)).sum + ((j : Int) - i - 1)

theorem rowOf_eq (ws : List Str) (i j : Nat) : rowOf ws i j = Str.join " " ((ws.drop i).take (j - i)) := StrLaws.glued_eq_join _ _
section
variable {ws : List Str} (O : WordsOk ws) (i j : Nat)
include O
theorem row_al : ∀ a ∈ (rowOf ws i j).cps.toList, a ∈ alphabet := by
  rw [rowOf_eq]
  exact join_al _ fun y hy => O.al y (List.mem_of_mem_drop (List.mem_of_mem_take hy))
theorem row_size : (rowOf ws i j).cps.size ≤ 2 ^ 20 := by
  rw [rowOf_eq]
  have h1 := join_size ((ws.drop i).take (j - i)) fun y hy => O.size y (List.mem_of_mem_drop (List.mem_of_mem_take hy))
  have h2 : ((ws.drop i).take (j - i)).length ≤ 16 := by have := O.few; simp; omega
  omega
theorem row_cells (hij : i < j) (hj : j ≤ ws.length) : cellsOf (rowOf ws i j) = Wd (ws.map cellsOf) i j := by
  rw [rowOf_eq, join_cells]
  · unfold Wd
    rw [List.map_take, List.map_drop]
    have : ((ws.drop i).take (j - i)).length = j - i := by simp; omega
    rw [this]; omega
  · intro h
    have := congrArg List.length h
    simp at this; omega
end
end Mine
namespace Mine
local macro_rules | `(tactic| walk_at "look") => `(tactic| first | assumption | exact upd_same _ _ _ | (refine (upd_other (by decide)).trans ?_; walk_at "look") | with_unfolding_all rfl)

def bestD : {d : DefRec // d = fnm (topSt 8)} := ⟨_, by conv => rhs; whnf⟩

section
variable {prog : Program} {w : World} {A : Around} {env : Env} {h : Heap}
theorem EvP.neg {e : Expr} {pos : Pos} {a : Int} (he : EvP prog w A env h e (IsI a)) : EvP prog w A env h (.UnaryOp .USub e pos) (IsI (-a)) := by
  intro Q E s hs hQ
  refine wpAny_UnaryOp (he _ _ s hs ?_)
  rintro _ s₁ r₁ e₁ ⟨t, rfl⟩
  exact PyProof.Rows.neg_int (hQ _ _ (r₁.trans' ⟨rfl, rfl, rfl⟩) e₁ ⟨_, rfl⟩)
theorem EvX.range3 {x : Str} {np pos : Pos} {e₁ e₂ e₃ : Expr} {a b c : Int} (hf : EvP prog w A env h (.Name x np) (Is (.type "range"))) (h1 : EvP prog w A env h e₁ (IsI a)) (h2 : EvP prog w A env h e₂ (IsI b)) (h3 : EvP prog w A env h e₃ (IsI c)) (hc : c ≠ 0) (hcs : c.natAbs < 1073741824)
    (hs : starEach [e₁, e₂, e₃] env = [(false, eval e₁ env), (false, eval e₂ env), (false, eval e₃ env)] := by rfl) :
    EvX prog w A env h (.Call (.Name x np) [e₁, e₂, e₃] [] pos) (fun v h' => ∃ r t u z, v = .ref r ∧ IsRange h' r a b c t u z) := by
  intro Q E s hs' hQ
  refine Call_Name (trees := [(false, eval e₁ env), (false, eval e₂ env), (false, eval e₃ env)]) (by rw [hs]; rfl) (hf _ _ s hs' ?_)
  rintro _ s₁ r₁ e₁ rfl
  refine PyProof.Rows.callWith_type rfl (Calls.evalArgs_plain (Calls.spliced_cons (h1 _ _ _ e₁ ?_)))
  rintro _ s₂ r₂ e₂ ⟨t, rfl⟩
  refine Calls.spliced_cons (h2 _ _ _ e₂ ?_)
  rintro _ s₃ r₃ e₃ ⟨u, rfl⟩
  refine Calls.spliced_cons (h3 _ _ _ e₃ ?_)
  rintro _ s₄ r₄ e₄ ⟨z, rfl⟩
  refine Calls.spliced_nil ?_
  subst e₄
  refine call_range_3 hc (hQ _ _ (r₁.trans' (r₂.trans' (r₃.trans' (r₄.trans' ⟨rfl, rfl, rfl⟩)))) (fun b o e => Heap.get?_push_of_some _ e) ⟨_, t, u, z, rfl, IsRange.new _ _ _ _ _ _ _⟩) (.inl (PyProof.noPylong_small hcs))
end

theorem small_down : ∀ n : Fin 17, Builtin.Range.small ((n.1 : Int) - 1) (-1) (-1) = true ∧ Builtin.Range.rangeSize ((n.1 : Int) - 1) (-1) (-1) = (n.1 : Int) := by decide +kernel

def OptV : Option Int → Value → Prop
  | none, v => v = .none
  | some i, v => IsI i v

/-- the price of a row from k to j, with what the words behind it cost -/
def cst (n : Nat) (room : Int) (wd : Nat → Nat → Int) (k j : Nat) (b : Int) : Int := if j = n then 0 else (room - wd k j) ^ 2 + b

structure DPAt (n : Nat) (room : Int) (wd : Nat → Nat → Int) (f : Nat → Option Int) (g : Nat → Int) (k : Nat) : Prop where
  val : ∃ (b : Int) (j : Nat) (bj : Int), f k = some b ∧ g k = j ∧ k < j ∧ j ≤ n ∧ wd k j ≤ room ∧ f j = some bj ∧ b = cst n room wd k j bj
  least : ∀ j, k < j → j ≤ n → (∀ i, k < i → i ≤ j → wd k i ≤ room) → ∃ b bj, f k = some b ∧ f j = some bj ∧ b ≤ cst n room wd k j bj

structure DP (n : Nat) (room : Int) (wd : Nat → Nat → Int) (lo : Nat) (f : Nat → Option Int) (g : Nat → Int) : Prop where
  low : ∀ k, k < lo → f k = none
  last : f n = some 0
  glast : g n = n
  at' : ∀ k, lo ≤ k → k < n → DPAt n room wd f g k

/-- values of the two lists -/
structure LV (n : Nat) (f : Nat → Option Int) (g : Nat → Int) (bl cl : List Value) : Prop where
  bz : bl.length = n + 1
  cz : cl.length = n + 1
  b : ∀ k, k ≤ n → ∃ v, bl[k]? = some v ∧ OptV (f k) v
  c : ∀ k, k ≤ n → ∃ v, cl[k]? = some v ∧ IsI (g k) v

def updF {α : Type} (f : Nat → α) (i : Nat) (x : α) : Nat → α := fun k => if k = i then x else f k

theorem LV.set {n : Nat} {f : Nat → Option Int} {g : Nat → Int} {bl cl : List Value} {i : Nat} {b j : Int} {v u : Value} (x : LV n f g bl cl) (hi : i ≤ n) (hv : IsI b v) (hu : IsI j u) :
    LV n (updF f i (some b)) (updF g i j) (bl.set i v) (cl.set i u) := by
  refine ⟨by simpa using x.bz, by simpa using x.cz, fun k hk => ?_, fun k hk => ?_⟩
  · by_cases e : k = i
    · subst e
      refine ⟨v, ?_, ?_⟩
      · rw [List.getElem?_set_self]; rw [x.bz]; omega
      · simpa [updF, OptV] using hv
    · obtain ⟨z, h1, h2⟩ := x.b k hk
      exact ⟨z, by rw [List.getElem?_set_ne (Ne.symm e)]; exact h1, by simpa [updF, e] using h2⟩
  · by_cases e : k = i
    · subst e
      refine ⟨u, ?_, ?_⟩
      · rw [List.getElem?_set_self]; rw [x.cz]; omega
      · simpa [updF] using hu
    · obtain ⟨z, h1, h2⟩ := x.c k hk
      exact ⟨z, by rw [List.getElem?_set_ne (Ne.symm e)]; exact h1, by simpa [updF, e] using h2⟩

/-- the inner loop: up to q (not included) the rows from i were weighed -/
structure InD (n : Nat) (room : Int) (wd : Nat → Nat → Int) (i q : Nat) (f : Nat → Option Int) (g : Nat → Int) : Prop where
  low : ∀ k, k < i → f k = none
  last : f n = some 0
  glast : g n = n
  at' : ∀ k, i < k → k < n → DPAt n room wd f g k
  fits : ∀ j, i < j → j < q → wd i j ≤ room
  none' : q = i + 1 → f i = none
  some' : i + 1 < q → ∃ (b : Int) (j : Nat) (bj : Int), f i = some b ∧ g i = j ∧ i < j ∧ j < q ∧ f j = some bj ∧ b = cst n room wd i j bj ∧
    ∀ j', i < j' → j' < q → ∃ bj', f j' = some bj' ∧ b ≤ cst n room wd i j' bj'

theorem DPAt.updF {n : Nat} {room : Int} {wd : Nat → Nat → Int} {f : Nat → Option Int} {g : Nat → Int} {k i : Nat} {b : Option Int} {j : Int} (x : DPAt n room wd f g k) (h : i < k) : DPAt n room wd (updF f i b) (updF g i j) k := by
  refine ⟨?_, fun j' h1 h2 h3 => ?_⟩
  · obtain ⟨b', j', bj, h1, h2, h3, h4, h5, h6, h7⟩ := x.val
    exact ⟨b', j', bj, by rw [Mine.updF, if_neg (by omega)]; exact h1, by rw [Mine.updF, if_neg (by omega)]; exact h2, h3, h4, h5, by rw [Mine.updF, if_neg (by omega)]; exact h6, h7⟩
  · obtain ⟨b', bj, e1, e2, e3⟩ := x.least j' h1 h2 h3
    exact ⟨b', bj, by rw [Mine.updF, if_neg (by omega)]; exact e1, by rw [Mine.updF, if_neg (by omega)]; exact e2, e3⟩

theorem InD.start {n : Nat} {room : Int} {wd : Nat → Nat → Int} {i : Nat} {f : Nat → Option Int} {g : Nat → Int} (x : DP n room wd (i + 1) f g) (_hi : i < n) : InD n room wd i (i + 1) f g :=
  ⟨fun k hk => x.low k (by omega), x.last, x.glast, fun k h1 h2 => x.at' k h1 h2, fun j h1 h2 => by omega, fun _ => x.low i (by omega), fun h => by omega⟩

/-- the values behind i are there -/
theorem InD.some_at {n : Nat} {room : Int} {wd : Nat → Nat → Int} {i q : Nat} {f : Nat → Option Int} {g : Nat → Int} (x : InD n room wd i q f g) (j : Nat) (h : i < j) (hj : j ≤ n) : ∃ bj, f j = some bj := by
  by_cases e : j = n
  · subst e; exact ⟨0, x.last⟩
  · obtain ⟨b, _, _, h1, _⟩ := (x.at' j h (by omega)).val
    exact ⟨b, h1⟩

theorem InD.better {n : Nat} {room : Int} {wd : Nat → Nat → Int} {i q : Nat} {f : Nat → Option Int} {g : Nat → Int} {bq : Int} (x : InD n room wd i q f g) (hi : i < q) (hq : q ≤ n) (hw : wd i q ≤ room) (hb : f q = some bq)
    (hlt : ∀ b, f i = some b → cst n room wd i q bq ≤ b) : InD n room wd i (q + 1) (updF f i (some (cst n room wd i q bq))) (updF g i q) := by
  have o : ∀ k, k ≠ i → updF f i (some (cst n room wd i q bq)) k = f k := fun k hk => if_neg hk
  have og : ∀ k, k ≠ i → updF g i (q : Int) k = g k := fun k hk => if_neg hk
  refine ⟨fun k hk => by rw [o k (by omega)]; exact x.low k hk, by rw [o n (by omega)]; exact x.last, by rw [og n (by omega)]; exact x.glast, fun k h1 h2 => (x.at' k h1 h2).updF h1, fun j h1 h2 => ?_, fun h => by omega, fun _ => ?_⟩
  · by_cases e : j = q
    · rw [e]; exact hw
    · exact x.fits j h1 (by omega)
  · refine ⟨cst n room wd i q bq, q, bq, if_pos rfl, if_pos rfl, hi, by omega, by rw [o q (by omega)]; exact hb, rfl, fun j' h1 h2 => ?_⟩
    by_cases e : j' = q
    · subst e; exact ⟨bq, by rw [o j' (by omega)]; exact hb, Int.le_refl _⟩
    · obtain ⟨b, j, bj, e1, e2, e3, e4, e5, e6, e7⟩ := x.some' (by omega)
      obtain ⟨bj', f1, f2⟩ := e7 j' h1 (by omega)
      exact ⟨bj', by rw [o j' (by omega)]; exact f1, Int.le_trans (hlt b e1) f2⟩
theorem InD.stay {n : Nat} {room : Int} {wd : Nat → Nat → Int} {i q : Nat} {f : Nat → Option Int} {g : Nat → Int} {bq b : Int} (x : InD n room wd i q f g) (hi : i < q) (hq : q ≤ n) (hw : wd i q ≤ room) (hb : f q = some bq)
    (hs : f i = some b) (hle : b ≤ cst n room wd i q bq) : InD n room wd i (q + 1) f g := by
  refine ⟨x.low, x.last, x.glast, x.at', fun j h1 h2 => ?_, fun h => by omega, fun _ => ?_⟩
  · by_cases e : j = q
    · rw [e]; exact hw
    · exact x.fits j h1 (by omega)
  · have hq' : i + 1 < q := by
      rcases Nat.lt_or_ge (i + 1) q with h | h
      · exact h
      · have := x.none' (by omega); rw [this] at hs; cases hs
    obtain ⟨b', j, bj, e1, e2, e3, e4, e5, e6, e7⟩ := x.some' hq'
    rw [e1] at hs; cases hs
    refine ⟨b, j, bj, e1, e2, e3, by omega, e5, e6, fun j' h1 h2 => ?_⟩
    by_cases e : j' = q
    · subst e; exact ⟨bq, hb, hle⟩
    · exact e7 j' h1 (by omega)
/-- the inner loop is over -/
theorem InD.close {n : Nat} {room : Int} {wd : Nat → Nat → Int} {i q : Nat} {f : Nat → Option Int} {g : Nat → Int} (x : InD n room wd i q f g) (hi : i < n) (hq : i + 1 < q) (hqn : q ≤ n + 1) (hend : q = n + 1 ∨ room < wd i q) : DP n room wd i f g := by
  refine ⟨x.low, x.last, x.glast, fun k h1 h2 => ?_⟩
  by_cases e : k = i
  · subst e
    obtain ⟨b, j, bj, e1, e2, e3, e4, e5, e6, e7⟩ := x.some' hq
    refine ⟨⟨b, j, bj, e1, e2, e3, by omega, x.fits j e3 e4, e5, e6⟩, fun j' h1 h2 h3 => ?_⟩
    have : j' < q := by
      rcases hend with h | h
      · omega
      · rcases Nat.lt_or_ge j' q with h' | h'
        · exact h'
        · have := h3 q (by omega) h'; omega
    obtain ⟨bj', f1, f2⟩ := e7 j' h1 this
    exact ⟨b, bj', e1, f1, f2⟩
  · exact x.at' k (by omega) h2

structure BestJ (n : Nat) (room : Int) (wd : Nat → Nat → Int) (h₀ : Heap) (c P l B C : Addr) (own : List (Addr × Obj)) (inv : (Nat → Option Int) → (Nat → Int) → Prop) (m : Str → Option Value) (news : List (Addr × Obj)) : Prop where
  mw : m "words" = some (.ref l)
  mr : ∃ t, m "room" = some (.int room t)
  mn : ∃ t, m "n" = some (.int n t)
  mb : m "best" = some (.ref B)
  mc : m "cut" = some (.ref C)
  led : ∃ oP ob oc bl cl f g, news = (P, oP) :: (B, ob) :: (C, oc) :: own ∧ TabV h₀ c P oP ∧ LObj bl ob ∧ LObj cl oc ∧ LV n f g bl cl ∧ inv f g
theorem BestJ.adr {n : Nat} {room : Int} {wd : Nat → Nat → Int} {h₀ : Heap} {c P l B C : Addr} {own : List (Addr × Obj)} {inv : (Nat → Option Int) → (Nat → Int) → Prop} {m : Str → Option Value} {news : List (Addr × Obj)}
    (x : BestJ n room wd h₀ c P l B C own inv m news) : news.map (·.1) = P :: B :: C :: own.map (·.1) := by
  obtain ⟨oP, ob, oc, bl, cl, f, g, rfl, _⟩ := x.led; rfl

section
variable {prog : Program} {w : World} {A : Around} {E : Value → Shared → Prop} {s : Shared} {mg mb : Str → Option Value} {h₁ : Heap} {c P fD f l : Addr} {vs : List Value} {ws : List Str} {room : Int} {t₁ : Tok} {Q : Value → Shared → Prop}

theorem best_spec (hh : A.handled = none) (hd : A.depth + 2 < recursionLimit) (W₁ : Wb mg mb c P fD h₁) (k₁ : Ext h₁ s.heap) (T : Tab c P s.heap) (hb : AllBare s.gens)
    (hf : FnAt bestD.1 h₁ f) (hl : s.heap.IsList l vs.toArray) (hi : StrsAre vs ws) (O : WordsOk ws) (hne : 1 ≤ ws.length) (hr : 0 ≤ room ∧ room ≤ 1000)
    (hroom : ∀ i, i < ws.length → Wd (ws.map cellsOf) i (i + 1) ≤ room) (hpos : ∀ i j, i < j → j ≤ ws.length → 0 ≤ Wd (ws.map cellsOf) i j)
    (hQ : ∀ s' a v C cl fb g, (∀ b o, b ≠ P → s.heap.get? b = some o → s'.heap.get? b = some o) → AllBare s'.gens → s'.os = s.os → Tab c P s'.heap →
      s.heap.get? C = none → s.heap.get? a = none → IsTup s'.heap a #[v, .ref C] → s'.heap.IsList C (List.toArray cl) → (∀ k, k ≤ ws.length → ∃ v, cl[k]? = some v ∧ IsI (g k) v) → cl.length = ws.length + 1 → OptV (fb 0) v →
      DP ws.length room (Wd (ws.map cellsOf)) 0 fb g → Q (.ref a) s') :
    wpAny (model prog w) A (call (.ref f) [.ref l, .int room t₁]) Q E s := by
  have hwl := strs_length hi
  have hfew := O.few
  generalize hn : ws.length = n at *
  obtain ⟨oP, hoP, hoc⟩ := T.obj
  have W := W₁.holed (P := P) k₁
  have hlP : l ≠ P := by
    rintro rfl
    obtain ⟨o, e, e2, _⟩ := hl
    rw [hoP] at e; cases e; rw [hoc] at e2; cases e2
  have hl' : (hole s.heap P).IsList l vs.toArray := by
    obtain ⟨o, e, r⟩ := hl; exact ⟨o, (hole_other hlP).trans e, r⟩
  have TV : TabV (hole s.heap P) c P oP := TabV.of T (hole_ext _ _) hoP W.oc
  refine enter [("words", .ref l), ("room", .int room t₁)] (by omega) (W₁.gr.keeps k₁) (hf.keeps k₁) ?_
  intro code s₀ R₀ S
  have S := S.hole hoP
  have hole₀ : ∀ b, b ≠ P → (hole s.heap P).get? b = s.heap.get? b := fun b hb => hole_other hb
  generalize hole s.heap P = h₀ at *
  have hfew' : n ≤ 16 := by omega
  have hsz : (vs.toArray.size : Int) = (n : Int) := by rw [List.size_toArray, hwl]
  -- n = len(words)
  refine wpAny_execs_cons (assignP S ((EvP.len (EvP.bt (W.gr.keeps S.fr.keep) W.nms.len.1 W.nms.len.2) (EvP.loc S.fr.ns (by walk_at "look") rfl) (hl'.at fun o e => S.old e) (by rw [hsz]; omega)).mono (P' := IsI n) fun v hv => by rw [hsz] at hv; exact hv) ?_)
  rintro v s₁ R₁ ⟨t, rfl⟩ S₁
  have R₁ := R₀.trans' R₁
  -- best = [None] * n + [0]
  refine wpAny_execs_cons (assignL S₁ (EvL.add (EvL.rep (n := n) (z := n) (fun _ _ _ => EvP.litNone) (fun news h Sh => EvP.loc Sh.fr.ns (by walk_at "look") ⟨_, rfl⟩) rfl (by omega)) (EvL.lit1 (fun _ _ _ => EvP.lit (i := 0)))
    (by rintro a ⟨v, rfl, _⟩; simp; omega) (by rintro a ⟨v, rfl, _⟩; simp)) ?_)
  rintro B bl ob s₂ R₂ ⟨_, _, ⟨_, rfl, rfl⟩, ⟨z0, rfl, hz0⟩, rfl⟩ hob S₂ hPB
  have R₂ := R₁.trans' R₂
  -- cut = [n] * (n + 1)
  refine wpAny_execs_cons (assignL S₂ (EvL.rep (n := n + 1) (z := (n : Int) + 1) (P := IsI n) (fun news h Sh => EvP.loc Sh.fr.ns (by walk_at "look") ⟨_, rfl⟩) (fun news h Sh => EvP.add (EvP.loc Sh.fr.ns (by walk_at "look") ⟨t, rfl⟩) (EvP.lit (i := 1))) (by push_cast; rfl) (by omega)) ?_)
  rintro C cl oc s₃ R₃ ⟨zn, rfl, hzn⟩ hcl S₃ hPC
  have R₃ := R₂.trans' R₃
  clear R₀ R₁ R₂ S S₁ S₂
  have eBP : B ≠ P := fun h => hPB (P, oP) List.mem_cons_self h.symm
  have eCP : C ≠ P := fun h => hPC (P, oP) (List.mem_cons_of_mem _ List.mem_cons_self) h.symm
  have eCB : C ≠ B := fun h => hPC (B, ob) List.mem_cons_self h.symm
  have lv₀ : LV n (fun k => if k = n then some 0 else none) (fun _ => n) (List.replicate n .none ++ [z0]) (List.replicate (n + 1) zn) := by
    refine ⟨by simp, by simp, fun k hk => ?_, fun k hk => ⟨zn, by rw [List.getElem?_replicate, if_pos (by omega)], hzn⟩⟩
    by_cases e : k = n
    · subst e; exact ⟨z0, by simp, by simpa [OptV] using hz0⟩
    · refine ⟨.none, ?_, by simp [OptV, e]⟩
      rw [List.getElem?_append_left (by simp; omega), List.getElem?_replicate, if_pos (by omega)]
  have S₃' := S₃.drop (news' := [(P, oP), (B, ob), (C, oc)]) (by intro p hp; simp only [List.mem_cons, List.not_mem_nil, or_false] at hp ⊢; rcases hp with h | h | h <;> simp [h])
  clear S₃
  -- the loop over i
  refine wpAny_execs_cons (forRange S₃' hh (fun s' => AllBare s'.gens ∧ s'.os = s.os) (fun _ _ r h => ⟨by rw [r.gens]; exact h.1, r.os.trans h.2⟩) ⟨by rw [R₃.gens]; exact hb, R₃.os⟩
    (n := n) (a := (n : Int) - 1) (c := -1) (fun i => BestJ n room (Wd (ws.map cellsOf)) h₀ c P l B C [] (DP n room (Wd (ws.map cellsOf)) (n - i))) ?_ ?_ ?_ ?_ ?_)
  · exact ⟨by walk_at "look", ⟨_, by walk_at "look"⟩, ⟨_, by walk_at "look"⟩, by walk_at "look", by walk_at "look", oP, ob, oc, _, _, _, _, rfl, TV, hob, hcl, lv₀,
      ⟨fun k hk => if_neg (by omega), if_pos rfl, rfl, fun k h1 h2 => by omega⟩⟩
  · intro i m' news' hJ; rw [hJ.adr]; rfl
  · have G₃ := W.gr.keeps S₃'.fr.keep
    refine (EvX.range3 (a := (n : Int) - 1) (b := -1) (c := -1) (EvP.bt G₃ W.nms.range.1 W.nms.range.2) (EvP.sub (EvP.loc S₃'.fr.ns (by walk_at "look") ⟨t, rfl⟩) EvP.lit) (EvP.neg EvP.lit) (EvP.neg EvP.lit) (by decide) (by decide)).mono ?_
    rintro v h' _ ⟨r, t, u, z, rfl, hR⟩
    have := small_down ⟨n, by omega⟩
    exact ⟨r, _, t, u, z, rfl, hR, this.1, this.2⟩
  · -- a turn over i
    intro iN t' m' news' own s₄ E' hlt hJ G₄ hoff S₄
    obtain ⟨mw, ⟨tr, mr⟩, ⟨tn, mn⟩, mB, mC, oP₁, ob₁, oc₁, bl₁, cl₁, f₁, g₁, rfl, TV₁, hob₁, hoc₁, lv₁, dp₁⟩ := hJ
    obtain ⟨i, hiN⟩ : ∃ i, i + 1 = n - iN := ⟨n - iN - 1, by omega⟩
    have hin : i < n := by omega
    have ei : (n : Int) - 1 + iN * -1 = i := by omega
    rw [ei] at S₄
    rw [← hiN] at dp₁
    have eown : ∀ p ∈ own, p.1 ≠ P ∧ p.1 ≠ B ∧ p.1 ≠ C := fun p hp => ⟨hoff p hp (P, oP₁) (by simp), hoff p hp (B, ob₁) (by simp), hoff p hp (C, oc₁) (by simp)⟩
    have next : ∀ (s₅ : Shared) m₅ news₅ (q : Nat), AllBare s₅.gens ∧ s₅.os = s.os → BestJ n room (Wd (ws.map cellsOf)) h₀ c P l B C own (InD n room (Wd (ws.map cellsOf)) i q) m₅ news₅ → i + 1 < q → q ≤ n + 1 → (q = n + 1 ∨ room < Wd (ws.map cellsOf) i q) →
        Sta h₀ s.heap.objs.size m₅ news₅ s₅.heap → ∃ m'' news'', BestJ n room (Wd (ws.map cellsOf)) h₀ c P l B C [] (DP n room (Wd (ws.map cellsOf)) (n - (iN + 1))) m'' news'' ∧ (AllBare s₅.gens ∧ s₅.os = s.os) ∧ Sta h₀ s.heap.objs.size m'' (news'' ++ own) s₅.heap := by
      intro s₅ m₅ news₅ q G₅ hJ h1 h2 h3 S₅
      obtain ⟨mw, mr, mn, mB, mC, oP₁, ob₁, oc₁, bl₁, cl₁, f₁, g₁, rfl, TV₁, hob₁, hoc₁, lv₁, ind⟩ := hJ
      rw [show n - (iN + 1) = i by omega]
      exact ⟨m₅, [(P, oP₁), (B, ob₁), (C, oc₁)], ⟨mw, mr, mn, mB, mC, oP₁, ob₁, oc₁, bl₁, cl₁, f₁, g₁, rfl, TV₁, hob₁, hoc₁, lv₁, ind.close hin h1 h2 h3⟩, G₅, S₅⟩
    have S₄ : Sta h₀ (envOf bestD.1.name bestD.1.scope s.heap.objs.size f code).locals (upd m' "i" (.int (i : Int) t')) ((P, oP₁) :: (B, ob₁) :: (C, oc₁) :: own) s₄.heap := S₄
    refine wpAny_execs_cons (forRange S₄ hh (fun s' => AllBare s'.gens ∧ s'.os = s.os) (fun _ _ r h => ⟨by rw [r.gens]; exact h.1, r.os.trans h.2⟩) G₄
      (n := n - i) (a := (i : Int) + 1) (c := 1) (fun u m news => BestJ n room (Wd (ws.map cellsOf)) h₀ c P l B C own (InD n room (Wd (ws.map cellsOf)) i (i + 1 + u)) m news ∧ ∃ t, m "i" = some (.int (i : Int) t)) ?_ ?_ ?_ ?_ ?_)
    · exact ⟨⟨by walk_at "look", ⟨_, by walk_at "look"⟩, ⟨_, by walk_at "look"⟩, by walk_at "look", by walk_at "look", oP₁, ob₁, oc₁, bl₁, cl₁, f₁, g₁, rfl, TV₁, hob₁, hoc₁, lv₁, InD.start dp₁ hin⟩, ⟨_, by walk_at "look"⟩⟩
    · intro i m' news' hJ; rw [hJ.1.adr]; rfl
    · have G₄ := W.gr.keeps S₄.fr.keep
      refine (EvX.range2 (EvP.bt G₄ W.nms.range.1 W.nms.range.2) (EvP.add (EvP.loc S₄.fr.ns (by walk_at "look") ⟨_, rfl⟩) EvP.lit) (EvP.add (EvP.loc S₄.fr.ns (by walk_at "look") ⟨tn, rfl⟩) EvP.lit)).mono ?_
      rintro v h' _ ⟨r, t, u, z, rfl, _, hR, _⟩
      refine ⟨r, _, t, u, z, rfl, hR, small_one (by omega) (by omega) (by omega) (by omega), ?_⟩
      rw [rangeSize_one, if_pos (by omega)]; omega
    · -- a turn over j
      rintro u t'' m₅ news₅ own₅ s₅ E₅ hu ⟨hJ, ⟨ti, mi⟩⟩ G₅ hoff₅ S₅
      obtain ⟨mw, ⟨tr, mr⟩, ⟨tn, mn⟩, mB, mC, oP₂, ob₂, oc₂, bl₂, cl₂, f₂, g₂, rfl, TV₂, hob₂, hoc₂, lv₂, ind⟩ := hJ
      have ej : (i : Int) + 1 + u * 1 = ((i + 1 + u : Nat) : Int) := by omega
      rw [ej] at S₅
      generalize hj : i + 1 + u = j at *
      have hij : i < j := by omega
      have hjn : j ≤ n := by omega
      have eown₅ : ∀ p ∈ own₅, p.1 ≠ P ∧ p.1 ≠ B ∧ p.1 ≠ C := fun p hp => ⟨hoff₅ p hp (P, oP₂) (by simp), hoff₅ p hp (B, ob₂) (by simp), hoff₅ p hp (C, oc₂) (by simp)⟩
      have rest_ne : ∀ p ∈ own ++ own₅, p.1 ≠ P ∧ p.1 ≠ B ∧ p.1 ≠ C := fun p hp => (List.mem_append.mp hp).elim (eown p) (eown₅ p)
      have S₅ : Sta h₀ (envOf bestD.1.name bestD.1.scope s.heap.objs.size f code).locals (upd m₅ "j" (.int (j : Int) t'')) ((P, oP₂) :: (B, ob₂) :: (C, oc₂) :: (own ++ own₅)) s₅.heap := S₅
      -- width
      refine wpAny_execs_cons (wpAny_Assign_Name (callDisp (c := c) (P := P) (x := rowOf ws i j) hh (by show A.depth + 1 + 1 < _; omega) W TV₂ S₅ ?_ G₅.1 ?_ (row_al O i j) (row_size O i j) ?_))
      · intro p hp
        rcases List.mem_cons.mp hp with rfl | hp
        · exact eBP
        rcases List.mem_cons.mp hp with rfl | hp
        · exact eCP
        · exact (rest_ne p hp).1
      · exact EvX.row EvP.str (EvP.loc S₅.fr.ns (by walk_at "look") rfl) (EvP.loc S₅.fr.ns (by walk_at "look") ⟨_, rfl⟩) (EvP.loc S₅.fr.ns (by walk_at "look") ⟨_, rfl⟩) rfl rfl (hl'.at fun o e => S₅.old e) hi (by omega) (by omega) (by omega) O.size
      rintro v s₆ oP₃ hv hb₆ ho₆ TV₃ S₆
      rw [row_cells O i j hij (by omega)] at hv
      obtain ⟨tw, rfl⟩ := hv
      have hw0 := hpos i j hij hjn
      generalize hW : Wd (ws.map cellsOf) i j = wij at *
      refine store_ S₆ fun s₇ R₇ _ S₇ => ?_
      have G₇ : AllBare s₇.gens ∧ s₇.os = s.os := ⟨by rw [R₇.gens]; exact hb₆, R₇.os.trans (ho₆.trans G₅.2)⟩
      clear S₅ S₆
      refine wpAny_execs_cons (if_ (b := decide (room < wij)) (EvT.gt (EvP.loc S₇.fr.ns (by walk_at "look") ⟨_, rfl⟩) (EvP.loc S₇.fr.ns (by walk_at "look") ⟨_, rfl⟩)) ?_ ?_)
      · -- break
        intro hgt s₈ R₈ e₈
        have hgt := of_decide_eq_true hgt
        refine wpAny_execs_cons (wpAny_Break ?_)
        have hu1 : i + 1 < j := by
          rcases Nat.lt_or_ge (i + 1) j with h | h
          · exact h
          · have : j = i + 1 := by omega
            subst this
            have := hroom i (by omega); omega
        have S₈ := e₈ ▸ S₇.drop (news' := (P, oP₃) :: (B, ob₂) :: (C, oc₂) :: own) (by intro p hp; simp only [List.mem_cons, List.mem_append] at hp ⊢; rcases hp with h | h | h | h <;> simp [h])
        refine wpAny_execs_nil ?_
        exact next s₈ _ _ j ⟨by rw [R₈.gens]; exact G₇.1, R₈.os.trans G₇.2⟩ ⟨by walk_at "look", ⟨_, by walk_at "look"⟩, ⟨_, by walk_at "look"⟩, by walk_at "look", by walk_at "look", oP₃, ob₂, oc₂, bl₂, cl₂, f₂, g₂, rfl, TV₃, hob₂, hoc₂, lv₂, ind⟩ hu1 (by omega) (.inr (by rw [hW]; exact hgt)) S₈
      intro hle s₈ R₈ e₈
      have hle := of_decide_eq_false hle
      have G₈ : AllBare s₈.gens ∧ s₈.os = s.os := ⟨by rw [R₈.gens]; exact G₇.1, R₈.os.trans G₇.2⟩
      rw [← e₈] at S₇
      clear G₇ R₇
      refine wpAny_execs_nil ?_
      obtain ⟨bj, hbj⟩ := ind.some_at j hij hjn
      obtain ⟨vj, hvj, ovj⟩ := lv₂.b j hjn
      rw [hbj] at ovj
      obtain ⟨tj, rfl⟩ := ovj
      have hB₇ := hob₂.isList (S₇.get (a := B) (o := ob₂) (by simp))
      -- cost
      refine wpAny_execs_cons (assign_ S₇ (R := fun v h' => IsI (cst n room (Wd (ws.map cellsOf)) i j bj) v ∧ h' = s₈.heap) (EvX.ifexp (b := ((j : Int) == (n : Int))) (EvT.eq (EvP.loc S₇.fr.ns (by walk_at "look") ⟨_, rfl⟩) (EvP.loc S₇.fr.ns (by walk_at "look") ⟨_, rfl⟩)) ?_ ?_) ?_)
      · intro hb
        have : j = n := by simp at hb; omega
        exact ((EvP.lit (i := 0)).mono fun v hv => by rw [cst, if_pos this]; exact hv).x
      · intro hb
        have : j ≠ n := by simp at hb; omega
        refine ((EvP.add (EvP.pow (EvP.sub (EvP.loc S₇.fr.ns (by walk_at "look") ⟨_, rfl⟩) (EvP.loc S₇.fr.ns (by walk_at "look") ⟨_, rfl⟩)) EvP.lit (by omega) (by omega) (by omega)) (EvP.item (l := B) (items := bl₂.toArray) (k := j) (P := IsI bj) (EvP.loc S₇.fr.ns (by walk_at "look") rfl) (EvP.loc S₇.fr.ns (by walk_at "look") ⟨_, rfl⟩) hB₇ (by omega) (by omega) (by simpa using hvj) ⟨tj, rfl⟩)).mono fun v hv => ?_).x
        rw [cst, if_neg this, hW]; exact hv
      rintro v _ s₉ R₉ _ ⟨⟨tc, rfl⟩, rfl⟩ _ S₉
      have G₉ : AllBare s₉.gens ∧ s₉.os = s.os := ⟨by rw [R₉.gens]; exact G₈.1, R₉.os.trans G₈.2⟩
      clear S₇ G₈
      obtain ⟨vi, hvi, ovi⟩ := lv₂.b i (by omega)
      have hB₉ := hob₂.isList (S₉.get (a := B) (o := ob₂) (by simp))
      have itm : ∀ p1 p2 p3, EvP prog w (A.deeper (envOf bestD.1.name bestD.1.scope s.heap.objs.size f code)) (envOf bestD.1.name bestD.1.scope s.heap.objs.size f code) s₉.heap (.Subscript (.Name "best" p1) (.Name "i" p2) p3) (· = vi) :=
        fun p1 p2 p3 => EvP.item (l := B) (items := bl₂.toArray) (k := i) (EvP.loc S₉.fr.ns (by walk_at "look") rfl) (EvP.loc S₉.fr.ns (by walk_at "look") ⟨_, rfl⟩) hB₉ (by omega) (by omega) (by simpa using hvi) rfl
      generalize hK : cst n room (Wd (ws.map cellsOf)) i j bj = K at *
      refine wpAny_execs_cons (if_ (b := ((f₂ i).isNone || (f₂ i).any fun b => decide (K < b))) (EvT.or (EvT.cmp (itm _ _ _) EvP.litNone ?_) ?_) ?_ ?_)
      · intro v u Q' E' s' hs hv hu hQ'
        rw [hv, show u = .none from hu]
        refine is_none_gen ?_
        have : (vi == Value.none) = (f₂ i).isNone := by
          cases hfi : f₂ i with
          | none => rw [hfi] at ovi; rw [show vi = .none from ovi]; rfl
          | some b => rw [hfi] at ovi; obtain ⟨tb, rfl⟩ := ovi; rfl
        rw [this]
        exact hQ' s' .rfl' hs
      · intro hsome
        obtain ⟨b, hfi⟩ : ∃ b, f₂ i = some b := by
          cases hfi : f₂ i with
          | none => rw [hfi] at hsome; cases hsome
          | some b => exact ⟨b, rfl⟩
        rw [hfi] at ovi ⊢
        obtain ⟨tb, rfl⟩ := ovi
        exact EvT.lt (a := K) (b := b) (EvP.loc S₉.fr.ns (by walk_at "look") ⟨_, rfl⟩) ((itm _ _ _).mono fun v hv => ⟨tb, hv⟩)
      · intro hyes sa Ra ea
        rw [← ea] at S₉
        have hlt : ∀ b, f₂ i = some b → K ≤ b := by
          intro b hb
          rw [hb] at hyes
          simp at hyes; omega
        refine wpAny_execs_cons (setItem_ (pre := [(P, oP₃)]) (post := (C, oc₂) :: (own ++ own₅)) (l := B) (ol := ob₂) (vs := bl₂) (k := i) (P := IsI K) S₉ hob₂ (EvP.loc S₉.fr.ns (by walk_at "look") ⟨_, rfl⟩) (EvP.loc S₉.fr.ns (by walk_at "look") rfl) (EvP.loc S₉.fr.ns (by walk_at "look") ⟨_, rfl⟩)
          (by omega) (by rw [lv₂.bz]; omega) (by rw [lv₂.bz]; omega) ?_ ?_ ?_)
        · intro p hp; rw [List.mem_singleton.mp hp]; exact Ne.symm eBP
        · intro p hp
          rcases List.mem_cons.mp hp with rfl | hp
          · exact eCB
          · exact (rest_ne p hp).2.1
        rintro v ob₃ sb Rb hv hob₃ Sb
        rw [Int.toNat_natCast] at hob₃
        refine wpAny_execs_cons (setItem_ (pre := [(P, oP₃), (B, ob₃)]) (post := own ++ own₅) (l := C) (ol := oc₂) (vs := cl₂) (k := i) (P := IsI j) Sb hoc₂ (EvP.loc Sb.fr.ns (by walk_at "look") ⟨_, rfl⟩) (EvP.loc Sb.fr.ns (by walk_at "look") rfl) (EvP.loc Sb.fr.ns (by walk_at "look") ⟨_, rfl⟩)
          (by omega) (by rw [lv₂.cz]; omega) (by rw [lv₂.cz]; omega) ?_ ?_ ?_)
        · intro p hp
          rcases List.mem_cons.mp hp with rfl | hp
          · exact Ne.symm eCP
          · rw [List.mem_singleton.mp hp]; exact Ne.symm eCB
        · intro p hp; exact (rest_ne p hp).2.2
        rintro u' oc₃ sc Rc hu' hoc₃ Sc
        rw [Int.toNat_natCast] at hoc₃
        refine wpAny_execs_nil ?_
        refine wpAny_execs_nil ?_
        refine ⟨_, (P, oP₃) :: (B, ob₃) :: (C, oc₃) :: own, ⟨⟨by walk_at "look", ⟨_, by walk_at "look"⟩, ⟨_, by walk_at "look"⟩, by walk_at "look", by walk_at "look", oP₃, ob₃, oc₃, _, _, _, _, rfl, TV₃, hob₃, hoc₃, lv₂.set (by omega) hv hu', ?_⟩, ⟨_, by walk_at "look"⟩⟩, ⟨by rw [Rc.gens, Rb.gens, Ra.gens]; exact G₉.1, Rc.os.trans (Rb.os.trans (Ra.os.trans G₉.2))⟩, Sc⟩
        rw [show i + 1 + (u + 1) = j + 1 by omega, ← hK]
        exact ind.better hij hjn (by rw [hW]; omega) hbj (by rw [hK]; exact hlt)
      · intro hno sa Ra ea
        rw [← ea] at S₉
        obtain ⟨b, hfi, hge⟩ : ∃ b, f₂ i = some b ∧ b ≤ K := by
          cases hfi : f₂ i with
          | none => rw [hfi] at hno; cases hno
          | some b => rw [hfi] at hno; simp at hno; exact ⟨b, rfl, hno⟩
        refine wpAny_execs_nil ?_
        refine wpAny_execs_nil ?_
        refine ⟨_, (P, oP₃) :: (B, ob₂) :: (C, oc₂) :: own, ⟨⟨by walk_at "look", ⟨_, by walk_at "look"⟩, ⟨_, by walk_at "look"⟩, by walk_at "look", by walk_at "look", oP₃, ob₂, oc₂, _, _, _, _, rfl, TV₃, hob₂, hoc₂, lv₂, ?_⟩, ⟨_, by walk_at "look"⟩⟩, ⟨by rw [Ra.gens]; exact G₉.1, Ra.os.trans G₉.2⟩, S₉⟩
        rw [show i + 1 + (u + 1) = j + 1 by omega]
        exact ind.stay hij hjn (by rw [hW]; omega) hbj hfi (by rw [hK]; exact hge)
    · intro m₅ news₅ s₅ hJ G₅ S₅
      refine wpAny_execs_nil ?_
      have hJ1 := hJ.1
      rw [show i + 1 + (n - i) = n + 1 by omega] at hJ1
      exact next s₅ _ _ (n + 1) G₅ hJ1 (by omega) (by omega) (.inl rfl) S₅
  · intro m' news' s₄ hJ G₄ S₄
    obtain ⟨mw, ⟨tr, mr⟩, ⟨tn, mn⟩, mB, mC, oP₁, ob₁, oc₁, bl₁, cl₁, f₁, g₁, rfl, TV₁, hob₁, hoc₁, lv₁, dp₁⟩ := hJ
    rw [Nat.sub_self] at dp₁
    obtain ⟨v0, hv0, ov0⟩ := lv₁.b 0 (by omega)
    have hB := hob₁.isList (S₄.get (a := B) (o := ob₁) (by simp))
    have hC := hoc₁.isList (S₄.get (a := C) (o := oc₁) (by simp))
    refine wpAny_execs_cons (return_ (EvX.pair (P := (· = v0)) (P' := Is (.ref C)) (EvP.item (l := B) (items := bl₁.toArray) (k := 0) (EvP.loc S₄.fr.ns (by walk_at "look") rfl) EvP.lit hB (by omega) (by omega) (by simpa using hv0) rfl) (EvP.loc S₄.fr.ns (by walk_at "look") rfl)) ?_)
    rintro v s₅ R₅ E₅ ⟨v1, v2, hv1, hv2, rfl, he⟩
    rw [hv1, show v2 = .ref C from hv2] at he
    have hPa := S₄.get (a := P) (o := oP₁) (by simp)
    have hCn := (S₄.nw (C, oc₁) (by simp)).2.2
    refine hQ s₅ _ v0 C cl₁ f₁ g₁ (fun b o hb e => E₅ _ _ (S₄.old ((hole₀ b hb).trans e))) (by rw [R₅.gens]; exact G₄.1) (R₅.os.trans G₄.2) (TV₁ _ (fun b o e => E₅ _ _ (S₄.old e)) (E₅ _ _ hPa)) ?_ ?_ ?_ (hC.at fun o e => E₅ _ _ e) lv₁.c lv₁.cz ov0 dp₁
    · rw [← hole₀ C eCP]; exact hCn
    · cases hq : s.heap.get? s₄.heap.objs.size with
      | none => rfl
      | some o =>
        have h1 := S₄.old ((hole₀ _ (fun h => by rw [h] at hq; exact absurd (Heap.lt_size (h ▸ hPa)) (by rw [h]; exact Nat.lt_irrefl _))).trans hq)
        rw [get_size] at h1; cases h1
    · rw [he]; exact ⟨_, Heap.get?_push_size _ rfl, rfl, _, rfl⟩
end
end Mine
namespace Mine
local macro_rules | `(tactic| walk_at "look") => `(tactic| first | assumption | exact upd_same _ _ _ | (refine (upd_other (by decide)).trans ?_; walk_at "look") | with_unfolding_all rfl)

def filledD : {d : DefRec // d = fnm (topSt 9)} := ⟨_, by conv => rhs; whnf⟩

/-- rows filled as far as they go -/
inductive Filled (n : Nat) (room : Int) (wd : Nat → Nat → Int) : Nat → Nat → Prop
  | start : Filled n room wd 0 0
  | row {i r j : Nat} : Filled n room wd i r → i < j → j ≤ n → (∀ q, i + 1 < q → q ≤ j → wd i q ≤ room) → (j = n ∨ room < wd i (j + 1)) → Filled n room wd j (r + 1)

section
variable {prog : Program} {w : World} {A : Around} {E : Value → Shared → Prop} {s : Shared} {env : Env}

theorem while_ {test : Expr} {body : List Stmt} {pos : Pos} {Q : Flow → Shared → Prop} (I : Nat → Shared → Prop) (n : Nat) (hI : I n s)
    (turn : ∀ k s' E', I k s' → wpAny (model prog w) A (isTrue test env (eval test env)) (fun b s₂ => if b then wpAny (model prog w) A (execs body env) (fun f s₃ => match f with
        | .next | .cont => ∃ k', k' < k ∧ I k' s₃
        | .brk => Q .next s₃
        | .ret v => Q (.ret v) s₃) E' s₂ else Q .next s₂) E' s') :
    wpAny (model prog w) A (exec (.While test body [] pos) env) Q E s := by
  refine wpAny_While (codeAny_whileLoop I (fun k s' hk => ?_) n hI)
  refine wpAny_mono (turn k s' _ hk) (fun b s₂ h₂ => ?_) fun _ _ e => e
  cases b with
  | true => exact h₂
  | false => exact wpAny_execs_nil h₂

variable {mg mb : Str → Option Value} {h₁ : Heap} {c P fD f l : Addr} {vs : List Value} {ws : List Str} {room : Int} {t₁ : Tok} {Q : Value → Shared → Prop}

theorem filled_spec (hh : A.handled = none) (hd : A.depth + 2 < recursionLimit) (W₁ : Wb mg mb c P fD h₁) (k₁ : Ext h₁ s.heap) (T : Tab c P s.heap) (hb : AllBare s.gens)
    (hf : FnAt filledD.1 h₁ f) (hl : s.heap.IsList l vs.toArray) (hi : StrsAre vs ws) (O : WordsOk ws)
    (hQ : ∀ s' v r, (∀ b o, b ≠ P → s.heap.get? b = some o → s'.heap.get? b = some o) → AllBare s'.gens → s'.os = s.os → Tab c P s'.heap →
      IsI (r : Nat) v → Filled ws.length room (Wd (ws.map cellsOf)) ws.length r → Q v s') :
    wpAny (model prog w) A (call (.ref f) [.ref l, .int room t₁]) Q E s := by
  have hwl := strs_length hi
  have hfew := O.few
  generalize hn : ws.length = n at *
  obtain ⟨oP, hoP, hoc⟩ := T.obj
  have W := W₁.holed (P := P) k₁
  have hlP : l ≠ P := by
    rintro rfl
    obtain ⟨o, e, e2, _⟩ := hl
    rw [hoP] at e; cases e; rw [hoc] at e2; cases e2
  have hl' : (hole s.heap P).IsList l vs.toArray := by
    obtain ⟨o, e, r⟩ := hl; exact ⟨o, (hole_other hlP).trans e, r⟩
  have TV : TabV (hole s.heap P) c P oP := TabV.of T (hole_ext _ _) hoP W.oc
  refine enter [("words", .ref l), ("room", .int room t₁)] (by omega) (W₁.gr.keeps k₁) (hf.keeps k₁) ?_
  intro code s₀ R₀ S
  have S := S.hole hoP
  have hole₀ : ∀ b, b ≠ P → (hole s.heap P).get? b = s.heap.get? b := fun b hb => hole_other hb
  generalize hole s.heap P = h₀ at *
  have hsz : (vs.toArray.size : Int) = (n : Int) := by rw [List.size_toArray, hwl]
  refine wpAny_execs_cons (assignP S EvP.lit ?_)
  rintro v s₁ R₁ ⟨t, rfl⟩ S₁
  refine wpAny_execs_cons (assignP S₁ EvP.lit ?_)
  rintro v s₂ R₂ ⟨u, rfl⟩ S₂
  have R₂ := R₀.trans' (R₁.trans' R₂)
  clear S S₁ R₀ R₁
  have lenT : ∀ h news m p1 p2 p3, Sta h₀ s.heap.objs.size m news h → m "words" = some (.ref l) → EvP prog w (A.deeper (envOf filledD.1.name filledD.1.scope s.heap.objs.size f code)) (envOf filledD.1.name filledD.1.scope s.heap.objs.size f code) h
      (.Call (.Name "len" p1) [.Name "words" p2] [] p3) (IsI n) := fun h news m p1 p2 p3 Sh hm =>
    (EvP.len (EvP.bt (W.gr.keeps Sh.fr.keep) W.nms.len.1 W.nms.len.2) (EvP.loc Sh.fr.ns hm rfl) (hl'.at fun o e => Sh.old e) (by rw [hsz]; omega)).mono fun v hv => by rw [hsz] at hv; exact hv
  refine wpAny_execs_cons (while_ (fun k s' => ∃ i r t u m oP, k = n - i ∧ i ≤ n ∧ m "words" = some (.ref l) ∧ (∃ t, m "room" = some (.int room t)) ∧ m "rows" = some (.int (r : Nat) t) ∧ m "i" = some (.int (i : Nat) u) ∧
      Filled n room (Wd (ws.map cellsOf)) i r ∧ AllBare s'.gens ∧ s'.os = s.os ∧ TabV h₀ c P oP ∧ Sta h₀ s.heap.objs.size m [(P, oP)] s'.heap) n
    ⟨0, 0, t, u, _, oP, rfl, Nat.zero_le _, by walk_at "look", ⟨_, by walk_at "look"⟩, by walk_at "look", by walk_at "look", .start, by rw [R₂.gens]; exact hb, R₂.os, TV, S₂⟩ ?_)
  rintro k s₃ E' ⟨i, r, ti, tr, m, oP₁, rfl, hin, mw, ⟨to, mr⟩, mro, mi, hF, hb₃, ho₃, TV₁, S₃⟩
  refine (EvT.lt (a := i) (b := n) (EvP.loc S₃.fr.ns (by walk_at "look") ⟨_, rfl⟩) (lenT _ _ _ _ _ _ S₃ mw)) _ _ s₃ rfl fun s₄ R₄ e₄ => ?_
  rw [← e₄] at S₃
  have hb₄ : AllBare s₄.gens := by rw [R₄.gens]; exact hb₃
  have ho₄ := R₄.os.trans ho₃
  by_cases hlt : (i : Int) < n
  · rw [decide_eq_true hlt, if_pos rfl]
    refine wpAny_execs_cons (assignP S₃ (EvP.add (a := i) (b := 1) (EvP.loc S₃.fr.ns (by walk_at "look") ⟨_, rfl⟩) EvP.lit) ?_)
    rintro v s₅ R₅ ⟨tj, rfl⟩ S₅
    refine wpAny_execs_cons (while_ (fun k s' => ∃ j t m oP, k = n - j ∧ i < j ∧ j ≤ n ∧ m "words" = some (.ref l) ∧ (∃ t, m "room" = some (.int room t)) ∧ (∃ t, m "rows" = some (.int (r : Nat) t)) ∧ (∃ t, m "i" = some (.int (i : Nat) t)) ∧ m "j" = some (.int (j : Nat) t) ∧
        (∀ q, i + 1 < q → q ≤ j → Wd (ws.map cellsOf) i q ≤ room) ∧ AllBare s'.gens ∧ s'.os = s.os ∧ TabV h₀ c P oP ∧ Sta h₀ s.heap.objs.size m [(P, oP)] s'.heap) (n - (i + 1))
      ⟨i + 1, tj, _, oP₁, rfl, by omega, by omega, by walk_at "look", ⟨_, by walk_at "look"⟩, ⟨_, by walk_at "look"⟩, ⟨_, by walk_at "look"⟩, by walk_at "look", fun q h1 h2 => by omega, by rw [R₅.gens]; exact hb₄, R₅.os.trans ho₄, TV₁, S₅⟩ ?_)
    clear S₅ S₃ mw mr mro mi TV₁
    rintro k s₆ E₆ ⟨j, t, m, oP₂, rfl, hij, hjn, mw, ⟨to, mr⟩, ⟨tro, mro⟩, ⟨ti, mi⟩, mj, hall, hb₆, ho₆, TV₂, S₆⟩
    -- what follows the loop
    have fin : ∀ (s₇ : Shared) oP₃ m, m "words" = some (.ref l) → (∃ t, m "room" = some (.int room t)) → (∃ t, m "rows" = some (.int (r : Nat) t)) → m "j" = some (.int (j : Nat) t) → AllBare s₇.gens → s₇.os = s.os → TabV h₀ c P oP₃ → Sta h₀ s.heap.objs.size m [(P, oP₃)] s₇.heap → (j = n ∨ room < Wd (ws.map cellsOf) i (j + 1)) →
        ∀ E₇, wpAny (model prog w) (A.deeper (envOf filledD.1.name filledD.1.scope s.heap.objs.size f code)) (execs ((filledD.1.body.drop 2).head?.elim [] (fun | .While _ b _ _ => b.drop 2 | _ => [])) (envOf filledD.1.name filledD.1.scope s.heap.objs.size f code)) (fun fl s₃ => match fl with
          | .next | .cont => ∃ k', k' < n - i ∧ ∃ i r t u m oP, k' = n - i ∧ i ≤ n ∧ m "words" = some (.ref l) ∧ (∃ t, m "room" = some (.int room t)) ∧ m "rows" = some (.int (r : Nat) t) ∧ m "i" = some (.int (i : Nat) u) ∧
              Filled n room (Wd (ws.map cellsOf)) i r ∧ AllBare s₃.gens ∧ s₃.os = s.os ∧ TabV h₀ c P oP ∧ Sta h₀ s.heap.objs.size m [(P, oP)] s₃.heap
          | .brk => False
          | .ret v => False) E₇ s₇ := by
      rintro s₇ oP₃ m mw ⟨to, mr⟩ ⟨tro, mro⟩ mj hb₇ ho₇ TV₃ S₇ hend E₇
      have S₇ : Sta h₀ (envOf filledD.1.name filledD.1.scope s.heap.objs.size f code).locals m [(P, oP₃)] s₇.heap := S₇
      refine wpAny_execs_cons (augAdd S₇ mro (EvP.lit (i := 1)) ?_)
      intro ta sa Ra Sa
      refine wpAny_execs_cons (assignP Sa (EvP.loc Sa.fr.ns (P := (· = .int (j : Nat) t)) (by walk_at "look") rfl) ?_)
      rintro v sb Rb rfl Sb
      refine wpAny_execs_nil ?_
      exact ⟨n - j, by omega, j, r + 1, ta, t, _, oP₃, rfl, hjn, by walk_at "look", ⟨_, by walk_at "look"⟩, by push_cast; walk_at "look", by walk_at "look", hF.row hij hjn hall hend, by rw [Rb.gens, Ra.gens]; exact hb₇, Rb.os.trans (Ra.os.trans ho₇), TV₃, Sb⟩
    have S₆ : Sta h₀ (envOf filledD.1.name filledD.1.scope s.heap.objs.size f code).locals m [(P, oP₂)] s₆.heap := S₆
    refine wpAny_isTrue_BoolOp (wpAny_allTrue_And_cons ((EvT.lt (a := j) (b := n) (EvP.loc S₆.fr.ns (by walk_at "look") ⟨_, rfl⟩) (lenT _ _ _ _ _ _ S₆ mw)) _ _ s₆ rfl fun s₇ R₇ e₇ => ?_))
    rw [← e₇] at S₆
    have hb₇ : AllBare s₇.gens := by rw [R₇.gens]; exact hb₆
    have ho₇ := R₇.os.trans ho₆
    by_cases hjlt : (j : Int) < n
    · rw [decide_eq_true hjlt, if_pos rfl]
      refine wpAny_allTrue_And_cons (wpAny_isTrue_Compare1 (callDisp (c := c) (P := P) (x := rowOf ws i (j + 1)) hh (by show A.depth + 1 + 1 < _; omega) W TV₂ S₆ (by simp) hb₇ ?_ (row_al O i (j + 1)) (row_size O i (j + 1)) ?_) (by with_unfolding_all rfl))
      · exact EvX.row EvP.str (EvP.loc S₆.fr.ns (by walk_at "look") rfl) (EvP.loc S₆.fr.ns (by walk_at "look") ⟨_, rfl⟩) (EvP.add (EvP.loc S₆.fr.ns (by walk_at "look") ⟨_, rfl⟩) EvP.lit) rfl (by push_cast; rfl) (hl'.at fun o e => S₆.old e) hi (by omega) (by omega) (by omega) O.size
      rintro v s₈ oP₃ hv hb₈ ho₈ TV₃ S₈
      rw [row_cells O i (j + 1) (by omega) (by omega)] at hv
      obtain ⟨tw, rfl⟩ := hv
      have ho₈ := ho₈.trans ho₇
      refine (EvP.loc S₈.fr.ns (P := IsI room) (by walk_at "look") ⟨_, rfl⟩ : EvP prog w _ _ _ _ _) _ _ s₈ rfl ?_
      rintro _ s₉ R₉ e₉ ⟨tr', rfl⟩
      rw [← e₉] at S₈
      have hb₉ : AllBare s₉.gens := by rw [R₉.gens]; exact hb₈
      have ho₉ := R₉.os.trans ho₈
      refine PyProof.Rows.le_int (wpAny_truthy_bool ?_)
      by_cases hfit : Wd (ws.map cellsOf) i (j + 1) ≤ room
      · rw [decide_eq_true hfit, if_pos rfl]
        refine wpAny_allTrue_And_nil ?_
        rw [if_pos rfl]
        refine wpAny_execs_cons (augAdd S₈ mj (EvP.lit (i := 1)) ?_)
        intro ta sa Ra Sa
        refine wpAny_execs_nil ?_
        refine ⟨n - (j + 1), by omega, j + 1, ta, _, oP₃, rfl, by omega, by omega, by walk_at "look", ⟨_, by walk_at "look"⟩, ⟨_, by walk_at "look"⟩, ⟨_, by walk_at "look"⟩, by push_cast; walk_at "look", fun q h1 h2 => ?_, by rw [Ra.gens]; exact hb₉, Ra.os.trans ho₉, TV₃, Sa⟩
        by_cases e : q = j + 1
        · rw [e]; exact hfit
        · exact hall q h1 (by omega)
      · rw [decide_eq_false hfit, if_neg Bool.false_ne_true, if_neg Bool.false_ne_true]
        exact wpAny_mono (fin s₉ oP₃ m mw ⟨_, mr⟩ ⟨_, mro⟩ mj hb₉ ho₉ TV₃ S₈ (.inr (by omega)) _) (fun fl s' h => by cases fl <;> first | exact h | exact h.elim) fun _ _ e => e
    · rw [decide_eq_false hjlt, if_neg Bool.false_ne_true, if_neg Bool.false_ne_true]
      exact wpAny_mono (fin s₇ oP₂ m mw ⟨_, mr⟩ ⟨_, mro⟩ mj hb₇ ho₇ TV₂ S₆ (.inl (by omega)) _) (fun fl s' h => by cases fl <;> first | exact h | exact h.elim) fun _ _ e => e
  · rw [decide_eq_false hlt, if_neg Bool.false_ne_true]
    have : i = n := by omega
    subst this
    refine wpAny_execs_cons (return_ (EvP.loc S₃.fr.ns (P := IsI (r : Nat)) (by walk_at "look") ⟨_, rfl⟩).x ?_)
    rintro v s₅ R₅ E₅ ⟨hv, _⟩
    have hPa := S₃.get (a := P) (o := oP₁) (by simp)
    exact hQ s₅ v r (fun b o hb e => E₅ _ _ (S₃.old ((hole₀ b hb).trans e))) (by rw [R₅.gens]; exact hb₄) (R₅.os.trans ho₄) (TV₁ _ (fun b o e => E₅ _ _ (S₃.old e)) (E₅ _ _ hPa)) hv hF
end
end Mine
namespace Mine

section
variable {prog : Program} {w : World} {A : Around} {env : Env} {h : Heap}

theorem EvP.cellVar {x : Str} {pos : Pos} {c : Addr} {v : Value} {P : Value → Prop} (hc : env.cells.lookup x = some c) (hv : h.IsCell c (some v)) (hP : P v)
    (hk : env.scope.kind = .function := by rfl) (hl : env.kindOf x = some .cell := by rfl) (hd : (x == ("__debug__" : Str)) = false := by decide) :
    EvP prog w A env h (.Name x pos) P :=
  fun _ _ s hs hQ => wpAny_Name (wpAny_loadName_cell hk hl hc (hs ▸ hv) (hQ v s .rfl' hs hP)) hd
theorem EvP.freeVar {x : Str} {pos : Pos} {c : Addr} {v : Value} {P : Value → Prop} (hc : env.cells.lookup x = some c) (hv : h.IsCell c (some v)) (hP : P v)
    (hk : env.scope.kind = .function := by rfl) (hl : env.kindOf x = some .free := by rfl) (hd : (x == ("__debug__" : Str)) = false := by decide) (hn : (x == ("__classdict__" : Str)) = false := by decide) :
    EvP prog w A env h (.Name x pos) P :=
  fun _ _ s hs hQ => wpAny_Name (wpAny_loadName_free hk hl hc (hs ▸ hv) (hQ v s .rfl' hs hP) hn) hd

theorem Src.range {iter : Expr} {a c : Int} {n : Nat} (hh : A.handled = none)
    (he : EvX prog w A env h iter (fun v h' => ∃ r b t u z, v = .ref r ∧ IsRange h' r a b c t u z ∧ Builtin.Range.small a b c = true ∧ Builtin.Range.rangeSize a b c = (n : Int))) :
    Src prog w A env h iter n (fun i v => ∃ t, v = .int (a + i * c) t) := by
  intro Q E s hs hQ
  refine he _ _ s hs ?_
  rintro _ s₁ r₁ e₁ ⟨r, b, t, u, z, rfl, hr, hsm, hn⟩
  refine wpAny_pyIter_range hr hsm ?_
  rw [hn]
  refine hQ _ _ _ _ _ ⟨r₁.gens, r₁.os, r₁.drawn⟩ (e₁.trans' (Ext.pushed _)) (Walks.range hh s₁.heap.objs.size a c n) ?_ ?_ ?_ ?_
  · have := Heap.get?_push_size s₁.heap (o := { cls := .type "range_iterator", data := .fields #[rawInt a, rawInt (n : Int), rawInt c] }) rfl
    simpa using this
  · intro b hb
    rw [List.mem_singleton.mp hb]
    show s₁.heap.objs.size < (s₁.heap.push _).objs.size
    rw [Heap.size_push]; exact Nat.lt_succ_self _
  · intro b hb
    rw [List.mem_singleton.mp hb]
    cases e : h.get? s₁.heap.objs.size with
    | none => rfl
    | some o => have := e₁ _ _ e; rw [get_size] at this; cases this
  · intro i h st b hb
    rw [List.mem_singleton.mp hb]; exact ⟨_, st⟩

theorem walks_bound {I : Addr} {fp wr : List Addr} {n : Nat} {P : Nat → Value → Prop} {St : Nat → Heap → Prop} (W : Walks prog w A I fp wr n P St) : Walks prog w A I fp wr n (fun i v => i < n ∧ P i v) St where
  sub := W.sub
  frame := W.frame
  item := fun i s Q E hi st hQ => W.item i s Q E hi st fun v h tk hP => hQ v h tk ⟨hi, hP⟩
  done := W.done
  self := W.self
theorem Src.bound {iter : Expr} {n : Nat} {P : Nat → Value → Prop} (x : Src prog w A env h iter n P) : Src prog w A env h iter n (fun i v => i < n ∧ P i v) :=
  fun Q E s hs hQ => x Q E s hs fun I fp wr St s' r e W => hQ I fp wr St s' r e (walks_bound W)

/-- range(b) -/
theorem EvX.range1 {x : Str} {np pos : Pos} {e₁ : Expr} {b : Int} (hf : EvP prog w A env h (.Name x np) (Is (.type "range"))) (h1 : EvP prog w A env h e₁ (IsI b))
    (hs : starEach [e₁] env = [(false, eval e₁ env)] := by rfl) :
    EvX prog w A env h (.Call (.Name x np) [e₁] [] pos) (fun v h' => ∃ r t u z, v = .ref r ∧ IsRange h' r 0 b 1 t u z) := by
  intro Q E s hs' hQ
  refine Call_name1 hs (hf _ _ s hs' ?_)
  rintro _ s₁ r₁ e₁ rfl
  refine callWith_type1 (h1 _ _ _ e₁ ?_)
  rintro _ s₂ r₂ e₂ ⟨t, rfl⟩
  refine call_range_1 ?_
  subst e₂
  exact hQ _ _ (r₁.trans' (r₂.trans' ⟨rfl, rfl, rfl⟩)) (fun b o e => Heap.get?_push_of_some _ e) ⟨_, _, _, _, rfl, IsRange.new _ _ _ _ _ _ _⟩

theorem EvX.abs {x : Str} {np pos : Pos} {e : Expr} {R : Value → Heap → Prop} {a : Int} (hf : EvP prog w A env h (.Name x np) (Is (.builtin "abs"))) (he : EvX prog w A env h e R) (k : ∀ v h', R v h' → IsI a v)
    (hs : starEach [e] env = [(false, eval e env)] := by rfl) : EvX prog w A env h (.Call (.Name x np) [e] [] pos) (fun v _ => IsI (a.natAbs : Nat) v) := by
  intro Q E s hs' hQ
  refine Call_name1 hs (hf _ _ s hs' ?_)
  rintro _ s₁ r₁ e₁ rfl
  refine callWith_builtin1 (he _ _ _ e₁ ?_)
  rintro v s₂ r₂ e₂ hR
  obtain ⟨t, rfl⟩ := k _ _ hR
  refine call_abs_int fun u tk => hQ _ _ (r₁.trans' (r₂.trans' ⟨rfl, rfl, rfl⟩)) e₂ ⟨u, ?_⟩
  congr 1
  split <;> omega

/-- the largest of a list of ints -/
theorem EvX.maxList {x : Str} {np pos : Pos} {e : Expr} {R : Value → Heap → Prop} {ns : List Int} (hh : A.handled = none) (hf : EvP prog w A env h (.Name x np) (Is (.builtin "max"))) (he : EvX prog w A env h e R)
    (k : ∀ v h', R v h' → ∃ l vs, v = .ref l ∧ h'.IsList l (List.toArray vs) ∧ IntsAre vs ns) (hne : ns ≠ []) (hs : starEach [e] env = [(false, eval e env)] := by rfl) :
    EvX prog w A env h (.Call (.Name x np) [e] [] pos) (fun v _ => ∃ N, IsI N v ∧ N ∈ ns ∧ ∀ n ∈ ns, n ≤ N) := by
  intro Q E s hs' hQ
  refine Call_name1 hs (hf _ _ s hs' ?_)
  rintro _ s₁ r₁ e₁ rfl
  refine callWith_builtin1 (he _ _ _ e₁ ?_)
  intro v s₂ r₂ e₂ hR
  obtain ⟨l, vs, rfl, hl, hi⟩ := k _ _ hR
  obtain ⟨xs, hx⟩ := hi.allInts.items
  have hl' : s₂.heap.IsList l (intItems xs) := hx ▸ hl
  have e1 : ns = xs.toList.map (·.1) := by
    rw [← nums_intItems, ← hx]
    exact (show numsOf vs.toArray.toList = ns from hi.numsOf).symm
  have hpos : 0 < xs.size := by
    cases h0 : xs.size with
    | zero => rw [e1] at hne; exact absurd (by simp [Array.eq_empty_of_size_eq_zero h0]) hne
    | succ n => omega
  have hb := argBest_gt (numAt xs) (xs.size - 1)
  refine max_intList hh hl' hpos fun v h' tk hv hk => ?_
  generalize argBest (fun i j => decide (numAt xs i > numAt xs j)) (xs.size - 1) = j at hv hb
  have hj : j < xs.size := by omega
  have hv' : v = .int xs[j].1 xs[j].2 := by
    have : (intItems xs)[j]? = some (.int xs[j].1 xs[j].2) := by simp [intItems, hj]
    rw [this] at hv; cases hv; rfl
  have hnum : numAt xs j = xs[j].1 := by simp [numAt, hj]
  refine hQ _ _ (r₁.trans' (r₂.trans' ⟨rfl, rfl, rfl⟩)) (fun b o e => hk _ _ (e₂ _ _ e)) ⟨xs[j].1, ⟨_, hv'⟩, ?_, ?_⟩
  · rw [e1]; exact List.mem_map.mpr ⟨xs[j], by simp, rfl⟩
  · intro n hn
    rw [e1] at hn
    obtain ⟨p, hp, rfl⟩ := List.mem_map.mp hn
    obtain ⟨i, hi', rfl⟩ := List.getElem_of_mem hp
    have hi2 : i < xs.size := by simpa using hi'
    have := hb.2 i (by omega)
    rw [hnum] at this
    simpa [numAt, hi2] using this
/-- the least of a list of ints -/
theorem EvX.minList {x : Str} {np pos : Pos} {e : Expr} {R : Value → Heap → Prop} {ns : List Int} (hh : A.handled = none) (hf : EvP prog w A env h (.Name x np) (Is (.builtin "min"))) (he : EvX prog w A env h e R)
    (k : ∀ v h', R v h' → ∃ l vs, v = .ref l ∧ h'.IsList l (List.toArray vs) ∧ IntsAre vs ns) (hne : ns ≠ []) (hs : starEach [e] env = [(false, eval e env)] := by rfl) :
    EvX prog w A env h (.Call (.Name x np) [e] [] pos) (fun v _ => ∃ N, IsI N v ∧ N ∈ ns ∧ ∀ n ∈ ns, N ≤ n) := by
  intro Q E s hs' hQ
  refine Call_name1 hs (hf _ _ s hs' ?_)
  rintro _ s₁ r₁ e₁ rfl
  refine callWith_builtin1 (he _ _ _ e₁ ?_)
  intro v s₂ r₂ e₂ hR
  obtain ⟨l, vs, rfl, hl, hi⟩ := k _ _ hR
  obtain ⟨xs, hx⟩ := hi.allInts.items
  have hl' : s₂.heap.IsList l (intItems xs) := hx ▸ hl
  have e1 : ns = xs.toList.map (·.1) := by
    rw [← nums_intItems, ← hx]
    exact (show numsOf vs.toArray.toList = ns from hi.numsOf).symm
  have hpos : 0 < xs.size := by
    cases h0 : xs.size with
    | zero => rw [e1] at hne; exact absurd (by simp [Array.eq_empty_of_size_eq_zero h0]) hne
    | succ n => omega
  have hb := argBest_lt (numAt xs) (xs.size - 1)
  refine min_intList hh hl' hpos fun v h' tk hv hk => ?_
  generalize argBest (fun i j => decide (numAt xs i < numAt xs j)) (xs.size - 1) = j at hv hb
  have hj : j < xs.size := by omega
  have hv' : v = .int xs[j].1 xs[j].2 := by
    have : (intItems xs)[j]? = some (.int xs[j].1 xs[j].2) := by simp [intItems, hj]
    rw [this] at hv; cases hv; rfl
  have hnum : numAt xs j = xs[j].1 := by simp [numAt, hj]
  refine hQ _ _ (r₁.trans' (r₂.trans' ⟨rfl, rfl, rfl⟩)) (fun b o e => hk _ _ (e₂ _ _ e)) ⟨xs[j].1, ⟨_, hv'⟩, ?_, ?_⟩
  · rw [e1]; exact List.mem_map.mpr ⟨xs[j], by simp, rfl⟩
  · intro n hn
    rw [e1] at hn
    obtain ⟨p, hp, rfl⟩ := List.mem_map.mp hn
    obtain ⟨i, hi', rfl⟩ := List.getElem_of_mem hp
    have hi2 : i < xs.size := by simpa using hi'
    have := hb.2 i (by omega)
    rw [hnum] at this
    simpa [numAt, hi2] using this

/-- max(a, b) -/
theorem EvX.max2 {x : Str} {np pos : Pos} {e₁ e₂ : Expr} {P₁ P₂ : Int → Prop} (hh : A.handled = none) (hf : EvP prog w A env h (.Name x np) (Is (.builtin "max"))) (h1 : EvX prog w A env h e₁ (fun v _ => ∃ a, IsI a v ∧ P₁ a))
    (h2 : ∀ h', Ext h h' → EvX prog w A env h' e₂ (fun v _ => ∃ b, IsI b v ∧ P₂ b))
    (hs : starEach [e₁, e₂] env = [(false, eval e₁ env), (false, eval e₂ env)] := by rfl) : EvX prog w A env h (.Call (.Name x np) [e₁, e₂] [] pos) (fun v _ => ∃ a b, P₁ a ∧ P₂ b ∧ IsI (max a b) v) := by
  intro Q E s hs' hQ
  refine Call_Name2 (hf _ _ s hs' ?_) hs
  rintro _ s₁ r₁ e₁ rfl
  refine Calls.callWith_builtin rfl (Calls.evalArgs_plain (Calls.spliced_cons (h1 _ _ _ e₁ ?_)))
  rintro _ s₂ r₂ e₂ ⟨a, ⟨t, rfl⟩, ha⟩
  refine Calls.spliced_cons (h2 _ e₂ _ _ _ rfl ?_)
  rintro _ s₃ r₃ e₃ ⟨b, ⟨u, rfl⟩, hb⟩
  refine Calls.spliced_nil (max_two_ints hh fun h' tk hk => ?_)
  refine hQ _ _ (r₁.trans' (r₂.trans' (r₃.trans' ⟨rfl, rfl, rfl⟩))) (fun b o e => hk _ _ (e₃ _ _ (e₂ _ _ e))) ⟨a, b, ha, hb, ?_⟩
  by_cases hba : b > a
  · rw [if_pos hba]; exact ⟨u, by rw [Int.max_eq_right (by omega)]⟩
  · rw [if_neg hba]; exact ⟨t, by rw [Int.max_eq_left (by omega)]⟩

/-- an int's operation on what a grown heap gives -/
theorem EvX.binX {l r : Expr} {op : Operator} {pos : Pos} {R R' : Value → Heap → Prop} {a b c : Int} (hl : EvX prog w A env h l R) (k : ∀ v h', R v h' → IsI a v) (hr : ∀ h', Ext h h' → EvX prog w A env h' r R') (k' : ∀ v h', R' v h' → IsI b v)
    (hop : ∀ (t u : Tok) (Q : Value → Shared → Prop) (E : Value → Shared → Prop) (s : Shared), (∀ v s', Rest s s' → s'.heap = s.heap → IsI c v → Q v s') → wpAny (model prog w) A (binaryOp op (.int a t) (.int b u)) Q E s) :
    EvX prog w A env h (.BinOp l op r pos) (fun v _ => IsI c v) := by
  intro Q E s hs hQ
  refine wpAny_BinOp (hl _ _ s hs ?_)
  intro v s₁ r₁ e₁ hR
  obtain ⟨t, rfl⟩ := k _ _ hR
  refine hr _ e₁ _ _ _ rfl ?_
  intro v s₂ r₂ e₂ hR
  obtain ⟨u, rfl⟩ := k' _ _ hR
  exact hop t u Q E _ fun v s' r' e' p => hQ v s' (r₁.trans' (r₂.trans' r')) (by rw [e']; exact e₁.trans' e₂) p

/-- list(l) -/
theorem EvX.listOf {x : Str} {np pos : Pos} {e : Expr} {l : Addr} {vs : List Value} (hf : EvP prog w A env h (.Name x np) (Is (.type "list"))) (he : EvP prog w A env h e (Is (.ref l)))
    (hl : h.IsList l vs.toArray) (hsz : vs.length ≤ sizeLine) (hs : starEach [e] env = [(false, eval e env)] := by rfl) :
    EvX prog w A env h (.Call (.Name x np) [e] [] pos) (fun v h' => ∃ D, v = .ref D ∧ h'.IsList D vs.toArray) := by
  intro Q E s hs' hQ
  refine Call_name1 hs (hf _ _ s hs' ?_)
  rintro _ s₁ r₁ e₁ rfl
  refine callWith_type1 (he _ _ s₁ e₁ ?_)
  rintro _ s₂ r₂ e₂ rfl
  subst e₂
  obtain ⟨o, ho, hc, n, hd⟩ := hl
  refine call_list_seq l (.inl rfl) ho hc hd (fun h' c' hk hD => ?_) (by simpa using hsz)
  exact hQ _ _ (r₁.trans' (r₂.trans' ⟨rfl, rfl, rfl⟩)) hk ⟨_, rfl, _, hD, rfl, _, rfl⟩

/-- an item of a tuple -/
theorem EvP.titem {value slice : Expr} {pos : Pos} {l : Addr} {items : List Value} {k : Int} {j : Nat} {x : Value} {P : Value → Prop} (hv : EvP prog w A env h value (Is (.ref l))) (hi : EvP prog w A env h slice (IsI k))
    (hl : IsTup h l items.toArray) (hlo : -(2 ^ 63) ≤ k) (hhi : k < 2 ^ 63) (hj : seqIndex? k items.length = some j) (hx : items[j]? = some x) (hP : P x)
    (hs : ∀ u, subscripted slice false (.ref l) (.int k u) = operate [.ref l, .int k u] (getItem (.ref l) (.int k u)) := by intro _; with_unfolding_all rfl) :
    EvP prog w A env h (.Subscript value slice pos) P := by
  intro Q E s hs' hQ
  refine Subscript_ (hv _ _ s hs' ?_)
  rintro _ s₁ r₁ e₁ rfl
  refine hi _ _ _ e₁ ?_
  rintro _ s₂ r₂ e₂ ⟨u, rfl⟩
  exact item_tupleT (e₂ ▸ hl) hlo hhi hj hx (hQ x s₂ (r₁.trans' r₂) e₂ hP) (hs u)
end
end Mine
namespace Mine

section
variable {prog : Program} {w : World} {A : Around} {E : Value → Shared → Prop} {s : Shared} {env : Env} {h₀ : Heap} {m : Str → Option Value} {news pre post : List (Addr × Obj)} {c : Addr} {o : Obj} {v₀ : Option Value}

/-- a cell's object -/
def CObj (v : Option Value) (o : Obj) : Prop := o.data = .cell v

theorem storeC {x : Str} {v : Value} {Q : Unit → Shared → Prop} (S : Sta h₀ env.locals m (pre ++ (c, o) :: post) s.heap) (hc : env.cells.lookup x = some c) (ho : CObj v₀ o) (h1 : ∀ p ∈ pre, p.1 ≠ c) (h2 : ∀ p ∈ post, p.1 ≠ c)
    (h : ∀ o' s', Rest s s' → CObj (some v) o' → Heap.SameBut c s.heap s'.heap → Sta h₀ env.locals m (pre ++ (c, o') :: post) s'.heap → Q () s')
    (hk : env.scope.kind = .function := by rfl) (hl : env.kindOf x = some .cell := by rfl) : wpAny (model prog w) A (storeName env x v) Q E s := by
  refine wpAny_storeName_cell hk hl hc ⟨o, S.get (List.mem_append.mpr (.inr List.mem_cons_self)), ho⟩ fun h' hv hs => ?_
  obtain ⟨o', e', d'⟩ := hv
  exact h o' _ ⟨rfl, rfl, rfl⟩ d' hs (S.change hs e' h1 h2)

theorem assignC {x : Str} {xp pos : Pos} {e : Expr} {R : Value → Heap → Prop} {Q : Flow → Shared → Prop} (S : Sta h₀ env.locals m (pre ++ (c, o) :: post) s.heap) (he : EvX prog w A env s.heap e R) (hc : env.cells.lookup x = some c) (ho : CObj v₀ o) (h1 : ∀ p ∈ pre, p.1 ≠ c) (h2 : ∀ p ∈ post, p.1 ≠ c)
    (h : ∀ v h₁ o' s', Rest s s' → R v h₁ → CObj (some v) o' → Ext s.heap h₁ → Heap.SameBut c h₁ s'.heap → Sta h₀ env.locals m (pre ++ (c, o') :: post) s'.heap → Q .next s')
    (hs : swapsWith e (some (.Name x xp)) pos.line env = pure false := by rfl)
    (hk : env.scope.kind = .function := by rfl) (hl : env.kindOf x = some .cell := by rfl) :
    wpAny (model prog w) A (exec (.Assign [.Name x xp] e pos) env) Q E s := by
  refine wpAny_Assign_Name (he _ _ s rfl fun v s₁ r₁ hE hR => ?_) hs
  exact storeC (S.ext hE) hc ho h1 h2 (fun o' s₂ r₂ ho' hs' S' => h v s₁.heap o' s₂ (r₁.trans' r₂) hR ho' hE hs' S') hk hl

/-- y = [..], y a cell -/
theorem assignCompC {elt iter : Expr} {x y : Str} {px py : Pos} {ifs : List Expr} {scope : Scope} {cl : List (Str × Addr)} {pos spos : Pos} {n : Nat} {P : Nat → Value → Prop} {Q : Flow → Shared → Prop}
    (S : Sta h₀ env.locals m (pre ++ (c, o) :: post) s.heap) (hc : env.cells.lookup y = some c) (ho : CObj v₀ o) (h1 : ∀ p ∈ pre, p.1 ≠ c) (h2 : ∀ p ∈ post, p.1 ≠ c) (p : Value → Bool) (Y : Value → Value → Prop)
    (hsrc : Src prog w A env s.heap iter n P) (hsz : n ≤ sizeLine) (T : Turns prog w A env s.heap scope cl x ifs elt P p (fun v z _ => Y v z))
    (hQ : ∀ D oD o' s' ys (vs : List Value), s.heap.get? D = none → LObj ys oD → CObj (some (.ref D)) o' → vs.length = n → (∀ j v, vs[j]? = some v → P j v) → Paired Y (vs.filter p) ys →
      Rest s s' → Sta h₀ env.locals m ((D, oD) :: (pre ++ (c, o') :: post)) s'.heap → Q .next s')
    (hsw : swapsWith (.ListComp elt [⟨.Name x px, iter, ifs, 0⟩] scope pos) (some (.Name y py)) spos.line env = pure true := by rfl)
    (hclos : closureFor scope env = pure cl := by rfl) (hcell : ∀ y ∈ scope.names, y.2 ≠ .cell := by decide) (hkind : scope.kind = .function := by rfl)
    (hnames : ∀ y ∈ scope.names, y.2 = .local → scope.names.lookup y.1 = some .local := by decide) (hx : scope.names.lookup x = some .local := by rfl)
    (hs : ∀ x, foldedSetIterable iter env x = pure x := by intro _; rfl)
    (hk : env.scope.kind = .function := by rfl) (hl : env.kindOf y = some .cell := by rfl) :
    wpAny (model prog w) A (exec (.Assign [.Name y py] (.ListComp elt [⟨.Name x px, iter, ifs, 0⟩] scope pos) spos) env) Q E s := by
  rw [exec_Assign_Name_used _ _ _ _ hsw]
  refine wpAny_bind (wpAny_standAt (wpAny_bind ?_))
  show wpAny _ A (do let _ ← comprehension (.ListComp elt [⟨.Name x px, iter, ifs, 0⟩] scope pos) scope env _ (newList []) false (eval iter env) (some (assign (.Name y py) env))) _ _ s
  refine wpAny_bind (wpAny_mono (wpAny_comprehension_free (use := some (assign (.Name y py) env)) (Q := fun _ s' => Q .next s') rfl hs hclos hkind hnames
    (hsrc _ _ s rfl ?_)) (fun _ s' hq => wpAny_pure (wpAny_pure hq)) fun _ _ e => e)
  intro I fp wr St s₁ r₁ e₁ W hst hfp hwr hlive
  have hL : ∃ o, s.heap.get? env.locals = some o := by obtain ⟨o, _, _, e, _⟩ := S.fr.ns; exact ⟨o, e⟩
  have hcm := S.nw (c, o) (List.mem_append.mpr (.inr List.mem_cons_self))
  refine comp_block (RR := fun acc C => compPost (model prog w) A E (some (assign (.Name y py) env)) (fun _ s' => Q .next s') acc C) (L := env.locals) W hsz p (fun v z _ => Y v z) hcell hkind hx hst hfp hwr hlive hL e₁ T ?_
  intro D C s' m' ys vs hD hC hDC hn hpl hlen hP hF hr hE
  have hLC : env.locals ≠ C := by rintro e; obtain ⟨o, ho⟩ := hL; rw [e, hC] at ho; cases ho
  have hLD : env.locals ≠ D := by rintro e; obtain ⟨o, ho⟩ := hL; rw [e, hD] at ho; cases ho
  have hcC : c ≠ C := by rintro rfl; have := hcm.1; rw [hC] at this; cases this
  have hcD : c ≠ D := by rintro rfl; have := hcm.1; rw [hD] at this; cases this
  have S' := S.ext hE
  show wpAny _ A (assign (.Name y py) env (.ref D)) _ _ _
  refine wpAny_assign_Name (storeC (s := s') S' hc ho h1 h2 (fun o' s₂ r₂ ho' hs₂ S₂ => ?_) hk hl)
  refine ⟨m', hn.sameBut hs₂ (Ne.symm hcC), fun h₃ hs₃ => ?_⟩
  obtain ⟨nD, eD⟩ := hpl
  have eD₂ := (hs₂.2 _ (Ne.symm hcD)).trans eD
  have eD₃ := (hs₃.2 _ hDC).trans eD₂
  have fresh : ∀ a, s.heap.get? a = none → h₀.get? a = none := fun a ha => by
    cases e : h₀.get? a with
    | none => rfl
    | some o => rw [S.old e] at ha; cases ha
  refine hQ D { cls := .type "list", data := .seq ys nD } o' _ ys.toList vs hD ⟨rfl, nD, by simp⟩ ho' hlen hP ?_ (r₁.trans' (hr.trans' ⟨r₂.gens, r₂.os, r₂.drawn⟩)) ?_
  · exact hF.mono fun v z hy => hy s'.heap (YK.of_ext (fun _ _ e => e))
  · have S₃ : Sta h₀ env.locals m (pre ++ (c, o') :: post) h₃ := by
      refine ⟨S₂.fr.change hs₃ (Ne.symm hLC) (fresh _ hC), fun q hq => ?_⟩
      have h1 := S₂.nw q hq
      have h2 : s.heap.get? q.1 ≠ none := by
        rcases List.mem_append.mp hq with hq | hq
        · rw [(S.nw q (List.mem_append.mpr (.inl hq))).1]; exact fun e => by cases e
        · rcases List.mem_cons.mp hq with rfl | hq
          · rw [hcm.1]; exact fun e => by cases e
          · rw [(S.nw q (List.mem_append.mpr (.inr (List.mem_cons_of_mem _ hq)))).1]; exact fun e => by cases e
      exact ⟨(hs₃.2 _ (fun e => h2 (by rw [e]; exact hC))).trans h1.1, h1.2⟩
    exact S₃.new eD₃ (Ne.symm hLD) (fresh _ hD)

theorem EvL.nil {pos : Pos} (hs : starEach ([] : List Expr) env = [] := by rfl) : EvL prog w A env h₀ m (.List [] pos) (fun vs => vs = []) := by
  intro news Q E s S hQ
  refine List_ ?_
  rw [hs]
  refine Calls.spliced_nil (newList_N S.fr S.nw (fun h' F' N' => ?_) (by simp))
  exact hQ _ [] _ _ ⟨rfl, rfl, rfl⟩ rfl ⟨rfl, _, rfl⟩ ⟨F', N'⟩ (sta_ne S (Nat.le_refl _))

theorem EvL.lit3 {e₁ e₂ e₃ : Expr} {pos : Pos} {P₁ P₂ P₃ : Value → Prop} (h1 : ∀ h, EvP prog w A env h e₁ P₁) (h2 : ∀ h, EvP prog w A env h e₂ P₂) (h3 : ∀ h, EvP prog w A env h e₃ P₃)
    (hs : starEach [e₁, e₂, e₃] env = [(false, eval e₁ env), (false, eval e₂ env), (false, eval e₃ env)] := by rfl) :
    EvL prog w A env h₀ m (.List [e₁, e₂, e₃] pos) (fun vs => ∃ a b c, vs = [a, b, c] ∧ P₁ a ∧ P₂ b ∧ P₃ c) := by
  intro news Q E s S hQ
  refine List_ ?_
  rw [hs]
  refine Calls.spliced_cons (h1 _ _ _ s rfl ?_)
  intro a s₁ r₁ e₁ pa
  refine Calls.spliced_cons (h2 _ _ _ s₁ rfl ?_)
  intro b s₂ r₂ e₂ pb
  refine Calls.spliced_cons (h3 _ _ _ s₂ rfl ?_)
  intro c s₃ r₃ e₃ pc
  have S₃ : Sta h₀ env.locals m news s₃.heap := by rw [e₃, e₂, e₁]; exact S
  refine Calls.spliced_nil (newList_N S₃.fr S₃.nw (fun h' F' N' => ?_) (by simp [sizeLine_eq]))
  exact hQ _ [a, b, c] _ _ (r₁.trans' (r₂.trans' (r₃.trans' ⟨rfl, rfl, rfl⟩))) ⟨a, b, c, rfl, pa, pb, pc⟩ ⟨rfl, _, rfl⟩ ⟨F', N'⟩ (sta_ne S₃ (Nat.le_refl _))

/-- list(l) -/
theorem EvL.listOf {x : Str} {np pos : Pos} {e : Expr} {l : Addr} {vs : List Value} (hf : ∀ news h, Sta h₀ env.locals m news h → EvP prog w A env h (.Name x np) (Is (.type "list"))) (he : ∀ news h, Sta h₀ env.locals m news h → EvP prog w A env h e (Is (.ref l)))
    (hl : ∀ h', Ext h₀ h' → h'.IsList l vs.toArray) (hsz : vs.length ≤ sizeLine) (hs : starEach [e] env = [(false, eval e env)] := by rfl) :
    EvL prog w A env h₀ m (.Call (.Name x np) [e] [] pos) (fun ws => ws = vs) := by
  intro news Q E s S hQ
  refine Call_name1 hs (hf _ _ S _ _ s rfl ?_)
  rintro _ s₁ r₁ e₁ rfl
  refine callWith_type1 (he _ _ S _ _ s₁ e₁ ?_)
  rintro _ s₂ r₂ e₂ rfl
  have S₂ : Sta h₀ env.locals m news s₂.heap := by rw [e₂]; exact S
  obtain ⟨o, ho, hc, n, hd⟩ := hl s₂.heap S₂.fr.keep
  refine call_list_seq l (.inl rfl) ho hc hd (fun h' c' hk hD => ?_) (by simpa using hsz)
  have S₃ := S₂.ext hk
  have hn : s₂.heap.get? s₂.heap.objs.size = none := get_size _
  refine hQ _ vs _ _ (r₁.trans' (r₂.trans' ⟨rfl, rfl, rfl⟩)) rfl ⟨rfl, c', rfl⟩ (S₃.new hD ?_ ?_) (sta_ne S₂ (Nat.le_refl _))
  · intro e
    obtain ⟨oL, _, _, hL, _⟩ := S₂.fr.ns
    rw [← e, hn] at hL; cases hL
  · cases e : h₀.get? s₂.heap.objs.size with
    | none => rfl
    | some o => rw [S₂.old e] at hn; cases hn

theorem slicePick_upto' (items : Array Value) (b : Nat) : slicePick items none (some (b : Int)) none = (items.toList.take b).toArray := by
  rcases Nat.lt_or_ge items.size b with h | h
  · have e : slicePick items none (some (b : Int)) none = slicePick items none (some (items.size : Int)) none := by
      unfold slicePick sliceBounds
      have h1 : ¬ ((b : Int) < 0) := by omega
      have h2 : ¬ ((items.size : Int) < 0) := by omega
      simp only [Option.getD_none, h1, h2, if_false, show (1 : Int) > 0 by decide, if_true]
      have e : max (0 : Int) (min (b : Int) items.size) = max 0 (min (items.size : Int) items.size) := by omega
      rw [e]
    rw [e, slicePick_upto _ _ (Nat.le_refl _), List.take_of_length_le (by simp), List.take_of_length_le (by simp; omega)]
  · exact slicePick_upto items b h
/-- l[:j] of a new list -/
theorem EvL.upto {value upper : Expr} {p pos : Pos} {R : List Value → Prop} {j : Nat} {z : Int} (hv : EvL prog w A env h₀ m value R) (hu : ∀ h, EvP prog w A env h upper (IsI z)) (hz : z = j) (hR : ∀ vs, R vs → vs.length ≤ sizeLine)
    (hs : ∀ o i, subscripted (.Slice none (some upper) none p) false o i = operate [i, o] (getItem o i) := by intro _ _; with_unfolding_all rfl) :
    EvL prog w A env h₀ m (.Subscript value (.Slice none (some upper) none p) pos) (fun ws => ∃ vs, R vs ∧ ws = vs.take j) := by
  subst hz
  intro news Q E s S hQ
  refine Subscript_ (hv news _ _ s S ?_)
  intro D vs o s₁ r₁ hvs ho S₁ n₁
  refine wpAny_Slice ?_
  rw [evalPart_none, evalPart_some]
  refine wpAny_pure (hu _ _ _ s₁ rfl ?_)
  rintro _ s₂ r₂ e₂ ⟨u, rfl⟩
  refine wpAny_pure ?_
  have S₂ : Sta h₀ env.locals m ((D, o) :: news) s₂.heap := by rw [e₂]; exact S₁
  have hlen := hR vs hvs
  have hl : (s₂.heap.push { cls := .type "slice", data := .fields #[.none, .int (j : Int) u, .none] }).IsList D vs.toArray := (ho.isList (S₂.get List.mem_cons_self)).push _
  refine tail_any (Heap.IsList.typeIs (s := { s₂ with heap := s₂.heap.push { cls := .type "slice", data := .fields #[.none, .int (j : Int) u, .none] } }) hl) list_getitem_lookup
    (wpAny_getItem_list_slice hl (Heap.IsSliceOf.new ..) .none (.int (j : Int) u) .none (by simp) ?_ (by simpa using hlen)) (hs _ _)
  have S₃ := (S₂.push { cls := .type "slice", data := .fields #[.none, .int (j : Int) u, .none] }).push { cls := .type "list", data := .seq (slicePick vs.toArray none (some (j : Int)) none) }
  refine hQ _ (vs.take j) { cls := .type "list", data := .seq (slicePick vs.toArray none (some (j : Int)) none) } _ (r₁.trans' (r₂.trans' ⟨rfl, rfl, rfl⟩)) ⟨vs, hvs, rfl⟩ ⟨rfl, 0, ?_⟩ (S₃.drop fun q hq => ?_) (sta_ne S₂.tail (by rw [Heap.size_push]; exact Nat.le_succ _))
  · show Data.seq _ 0 = _
    rw [slicePick_upto']
  · rcases List.mem_cons.mp hq with rfl | hq
    · exact List.mem_cons_self
    · exact List.mem_cons_of_mem _ (List.mem_cons_of_mem _ (List.mem_cons_of_mem _ hq))

/-- x = [] -/
theorem assignNil {x : Str} {xp lp pos : Pos} {Q : Flow → Shared → Prop} (S : Sta h₀ env.locals m news s.heap)
    (h : ∀ D s', Rest s s' → Sta h₀ env.locals (upd m x (.ref D)) ((D, { cls := .type "list", data := .seq ([] : List Value).toArray 0 }) :: news) s'.heap → (∀ p ∈ news, p.1 ≠ D) → Q .next s')
    (hs0 : starEach ([] : List Expr) env = [] := by rfl) (hs : swapsWith (.List [] lp) (some (.Name x xp)) pos.line env = pure false := by rfl)
    (hl : env.kindOf x = some .local := by rfl) (hp : (env.scope.kind == .class || (env.scope.kind == .module && env.locals != env.globals)) = false := by rfl) :
    wpAny (model prog w) A (exec (.Assign [.Name x xp] (.List [] lp) pos) env) Q E s := by
  refine wpAny_Assign_Name (List_ ?_) hs
  rw [hs0]
  refine Calls.spliced_nil (newList_N S.fr S.nw (fun h' F' N' => ?_) (by simp))
  exact store_ (s := { s with heap := h' }) ⟨F', N'⟩ (fun s₂ r₂ hs' S' => h _ s₂ ⟨r₂.gens, r₂.os, r₂.drawn⟩ S' (sta_ne S (Nat.le_refl _))) hl hp

/-- a tuple's object -/
def TObj (vs : List Value) (o : Obj) : Prop := o.cls = .type "tuple" ∧ ∃ n, o.data = .seq vs.toArray n
theorem TObj.isTup {h : Heap} {l : Addr} {vs : List Value} {o : Obj} (x : TObj vs o) (e : h.get? l = some o) : IsTup h l vs.toArray := ⟨o, e, x.1, x.2⟩

/-- l.append(e) -/
theorem append_ {e : Expr} {x : Str} {np apos cpos pos : Pos} {vs : List Value} {n : Nat} {R : Value → Heap → Prop} {Q : Flow → Shared → Prop} (S : Sta h₀ env.locals m (pre ++ (c, o) :: post) s.heap) (ho : o = { cls := .type "list", data := .seq vs.toArray n })
    (hx : EvP prog w A env s.heap (.Name x np) (Is (.ref c))) (he : EvX prog w A env s.heap e R) (h1 : ∀ p ∈ pre, p.1 ≠ c) (h2 : ∀ p ∈ post, p.1 ≠ c) (hsz : vs.length ≤ 1000)
    (h : ∀ v h₁ n' s', Rest s s' → R v h₁ → Sta h₀ env.locals m (pre ++ (c, { cls := .type "list", data := .seq (vs ++ [v]).toArray n' }) :: post) s'.heap → Q .next s')
    (hbase : attributeBase (.Name x np) "append" env (eval (.Name x np) env) = eval (.Name x np) env := by rfl) (hs : starEach [e] env = [(false, eval e env)] := by rfl) (hline : (apos.endLine == cpos.line) = true := by rfl)
    (hi : interactive env = false := by rfl) (hsw : swapsWith (.Call (.Attribute (.Name x np) "append" apos) [e] [] cpos) none pos.line env = pure false := by rfl) :
    wpAny (model prog w) A (exec (.Expr (.Call (.Attribute (.Name x np) "append" apos) [e] [] cpos) pos) env) Q E s := by
  subst ho
  refine wpAny_Expr ?_ hi hsw
  refine Call_method1 hbase hs hline (hx _ _ s rfl ?_)
  rintro _ s₁ r₁ e₁ rfl
  have S₁ : Sta h₀ env.locals m _ s₁.heap := e₁.symm ▸ S
  have hg := S₁.get (a := c) (List.mem_append.mpr (.inr List.mem_cons_self))
  refine ⟨"list", "list.append", F.plainAttrs_list, F.slot_list_append, F.type_list_append, ⟨_, hg, rfl⟩, (fun _ e => by cases e; exact ⟨_, hg, rfl⟩), ?_⟩
  refine P.append_list ((he _ _ s₁ e₁ ?_))
  intro v s₂ r₂ e₂ hR
  have S₂ := S₁.ext (h' := s₂.heap) (by rw [e₁]; exact e₂)
  have hg₂ := S₂.get (a := c) (List.mem_append.mpr (.inr List.mem_cons_self))
  refine ⟨vs.toArray, n, by rw [List.size_toArray, sizeLine_eq]; omega, hg₂, ?_⟩
  have hg₃ := IsL.update hg₂ fun x => x.push v
  have S₃ := S₂.change (Heap.SameBut.update _ _ _) hg₃ h1 h2
  refine h v s₂.heap (if (vs ++ [v]).toArray.size == vs.toArray.size then n else n + 1) _ (r₁.trans' (r₂.trans' ⟨rfl, rfl, rfl⟩)) hR ?_
  have e : vs.toArray.push v = (vs ++ [v]).toArray := by simp
  rw [e] at S₃
  exact S₃

/-- for x in a new list, x a cell -/
theorem forListC {x : Str} {xp pos : Pos} {iter : Expr} {body : List Stmt} {R : List Value → Prop} {N : Nat} {Q : Flow → Shared → Prop}
    (S : Sta h₀ env.locals m (pre ++ (c, o) :: post) s.heap) (hh : A.handled = none) (hit : EvL prog w A env h₀ m iter R) (hN : ∀ vs, R vs → vs.length = N)
    (J : List Value → Nat → (Str → Option Value) → List (Addr × Obj) → Obj → List (Addr × Obj) → Prop) (h0 : ∀ vs, R vs → J vs 0 m pre o post)
    (hadr : ∀ vs i m' pre' o' post', J vs i m' pre' o' post' → pre'.map (·.1) = pre.map (·.1) ∧ post'.map (·.1) = post.map (·.1) ∧ ∃ v₀, CObj v₀ o')
    (hc : env.cells.lookup x = some c) (hpre : ∀ a ∈ pre.map (·.1), a ≠ c) (hpost : ∀ a ∈ post.map (·.1), a ≠ c)
    (G : Shared → Prop) (Gst : ∀ s s', Rest s s' → G s → G s') (hG : G s)
    (turn : ∀ vs i v m' pre' o₀ o' post' own s' E', R vs → i < N → vs[i]? = some v → J vs i m' pre' o₀ post' → CObj (some v) o' → G s' → (∀ p ∈ own, ∀ q ∈ pre' ++ (c, o') :: post', p.1 ≠ q.1) →
      Sta h₀ env.locals m' ((pre' ++ (c, o') :: post') ++ own) s'.heap →
      wpAny (model prog w) A (execs body env) (fun f s'' => match f with
        | .next | .cont => ∃ m'' pre'' o'' post'', J vs (i + 1) m'' pre'' o'' post'' ∧ G s'' ∧ Sta h₀ env.locals m'' ((pre'' ++ (c, o'') :: post'') ++ own) s''.heap
        | .brk => Q .next s''
        | .ret v => Q (.ret v) s'') E' s')
    (done : ∀ vs m' pre' o' post' s', R vs → J vs N m' pre' o' post' → G s' → Sta h₀ env.locals m' (pre' ++ (c, o') :: post') s'.heap → Q .next s')
    (hs : ∀ x, foldedSetIterable iter env x = pure x := by intro _; rfl)
    (hk : env.scope.kind = .function := by rfl) (hl : env.kindOf x = some .cell := by rfl) :
    wpAny (model prog w) A (exec (.For (.Name x xp) iter body [] pos) env) Q E s := by
  refine wpAny_For (hit _ _ _ s S ?_) hs
  intro D vs oD s₁ r₁ hR hoD S₁ hne
  have hlD := hoD.isList (S₁.get List.mem_cons_self)
  refine wpAny_pyIter_list hlD ?_
  have S₂ := S₁.push { cls := .type "list_iterator", data := .fields #[.ref D, .int 0 0] }
  have hDI : D ≠ s₁.heap.objs.size := Nat.ne_of_lt (S₁.lt _ List.mem_cons_self)
  have hnI : ∀ q ∈ (pre ++ (c, o) :: post), s₁.heap.objs.size ≠ q.1 := fun q hq => Nat.ne_of_gt (S₁.tail.lt q hq)
  generalize s₁.heap.objs.size = I at S₂ hDI hnI
  have adrI : ∀ i m' pre' o' post', J vs i m' pre' o' post' → ∀ o'' q, q ∈ (pre' ++ (c, o'') :: post') → I ≠ q.1 ∧ D ≠ q.1 := fun i m' pre' o' post' hJ o'' q hq => by
    obtain ⟨ha, hb, _⟩ := hadr vs i m' pre' o' post' hJ
    have h1 : q.1 ∈ (pre ++ (c, o) :: post).map (·.1) := by
      have : (pre' ++ (c, o'') :: post').map (·.1) = (pre ++ (c, o) :: post).map (·.1) := by simp [ha, hb]
      exact this ▸ List.mem_map.mpr ⟨q, hq, rfl⟩
    obtain ⟨p, hp1, hp2⟩ := List.mem_map.mp h1
    rw [← hp2]; exact ⟨hnI p hp1, (hne p hp1).symm⟩
  have hNv := hN vs hR
  refine codeAny_forLoop (fun k s' => ∃ i m' pre' o' post' oI, k = N + 1 - i ∧ i ≤ N ∧ J vs i m' pre' o' post' ∧ G s' ∧ (oI.cls = .type "list_iterator" ∧ oI.data = .fields #[.ref D, .int i 0]) ∧ Sta h₀ env.locals m' ((pre' ++ (c, o') :: post') ++ [(I, oI), (D, oD)]) s'.heap) ?_ (N + 1)
    ⟨0, m, pre, o, post, { cls := .type "list_iterator", data := .fields #[.ref D, .int 0 0] }, by omega, Nat.zero_le _, h0 vs hR, Gst s _ (r₁.trans' ⟨rfl, rfl, rfl⟩) hG, ⟨rfl, rfl⟩, ?_⟩
  · rintro k s' ⟨i, m', pre', o', post', oI, rfl, hi, hJ, hG', ⟨hI1, hI2⟩, S'⟩
    have gI := S'.get (a := I) (o := oI) (by simp)
    have gD := S'.get (a := D) (o := oD) (by simp)
    have hit' : s'.heap.IsListIter I D i := ⟨oI, gI, hI1, hI2⟩
    have hlD' := hoD.isList gD
    obtain ⟨hap, haq, v₀, ho⟩ := hadr vs i m' pre' o' post' hJ
    have h1 : ∀ p ∈ pre', p.1 ≠ c := fun p hp => hpre _ (hap ▸ List.mem_map.mpr ⟨p, hp, rfl⟩)
    have h2 : ∀ p ∈ post', p.1 ≠ c := fun p hp => hpost _ (haq ▸ List.mem_map.mpr ⟨p, hp, rfl⟩)
    by_cases hlt : i < N
    · have hv : vs.toArray[i]? = some vs[i] := by simp [hNv, hlt]
      refine wpAny_pyNext_list_item hit' hlD' hv fun h₂ hit₂ hs₂ => ?_
      obtain ⟨oI₂, e₂, c₂, d₂⟩ := hit₂
      have S₂ := S'.change hs₂ e₂ (fun p hp => (adrI i m' pre' o' post' hJ o' p hp).1.symm) (fun p hp => by rw [List.mem_singleton.mp hp]; exact hDI)
      have S₂ : Sta h₀ env.locals m' (pre' ++ (c, o') :: (post' ++ [(I, oI₂), (D, oD)])) h₂ := by simpa using S₂
      have hcI := adrI i m' _ _ _ hJ o' (c, o') (by simp)
      refine wpAny_assign_Name (storeC (s := { s' with heap := h₂ }) S₂ hc ho h1 ?_ (fun o₂ s₃ r₃ ho' _ S₃ => ?_) hk hl)
      · intro p hp
        rcases List.mem_append.mp hp with hp | hp
        · exact h2 p hp
        · rcases List.mem_cons.mp hp with rfl | hp
          · exact hcI.1
          · rw [List.mem_singleton.mp hp]; exact hcI.2
      have S₃ : Sta h₀ env.locals m' ((pre' ++ (c, o₂) :: post') ++ [(I, oI₂), (D, oD)]) s₃.heap := by simpa using S₃
      refine wpAny_mono (turn vs i vs[i] m' pre' o' o₂ post' [(I, oI₂), (D, oD)] s₃ _ hR hlt (by simp [hNv, hlt]) hJ ho' (Gst s' s₃ ⟨r₃.gens, r₃.os, r₃.drawn⟩ hG') ?_ S₃) (fun f s'' hf => ?_) fun _ _ e => e
      · intro p hp q hq
        have hq' := adrI i m' _ _ _ hJ o₂ q hq
        rcases List.mem_cons.mp hp with rfl | hp
        · exact hq'.1
        · rw [List.mem_singleton.mp hp]; exact hq'.2
      · have go : (∃ m'' pre'' o'' post'', J vs (i + 1) m'' pre'' o'' post'' ∧ G s'' ∧ Sta h₀ env.locals m'' ((pre'' ++ (c, o'') :: post'') ++ [(I, oI₂), (D, oD)]) s''.heap) →
            ∃ k', k' < N + 1 - i ∧ ∃ i' m' pre' o' post' oI, k' = N + 1 - i' ∧ i' ≤ N ∧ J vs i' m' pre' o' post' ∧ G s'' ∧ (oI.cls = .type "list_iterator" ∧ oI.data = .fields #[.ref D, .int i' 0]) ∧ Sta h₀ env.locals m' ((pre' ++ (c, o') :: post') ++ [(I, oI), (D, oD)]) s''.heap := by
          rintro ⟨m'', pre'', o'', post'', hJ', hG'', S''⟩
          exact ⟨N + 1 - (i + 1), by omega, i + 1, m'', pre'', o'', post'', oI₂, rfl, hlt, hJ', hG'', ⟨c₂, d₂⟩, S''⟩
        cases f with
        | next => exact go hf
        | cont => exact go hf
        | brk => exact hf
        | ret v => exact hf
    · have hin : i = N := by omega
      subst hin
      refine wpAny_pyNext_list_end hh hit' hlD' (by simp [hNv]) fun h₂ he₂ => wpAny_execs_nil ?_
      refine done vs m' pre' o' post' _ hR hJ (Gst s' _ ⟨rfl, rfl, rfl⟩ hG') ?_
      have hI := S'.nw (I, oI) (by simp)
      refine ⟨⟨S'.fr.ns.extBut he₂ (Ne.symm hI.2.1), fun b o e => he₂ b o (fun q => by rw [q] at e; rw [hI.2.2] at e; cases e) (S'.fr.keep b o e), S'.fr.above⟩, fun p hp => ?_⟩
      have h1 := S'.nw p (List.mem_append.mpr (.inl hp))
      exact ⟨he₂ _ _ (adrI i m' _ _ _ hJ o' p hp).1.symm h1.1, h1.2⟩
  · refine S₂.drop fun p hp => ?_
    rcases List.mem_append.mp hp with h | h
    · exact List.mem_cons_of_mem _ (List.mem_cons_of_mem _ h)
    · rcases List.mem_cons.mp h with rfl | h
      · exact List.mem_cons_self
      · rw [List.mem_singleton.mp h]; exact List.mem_cons_of_mem _ List.mem_cons_self

/-- a pair is not another pair -/
theorem ne_pair {a b : Addr} {x y x' y' : Int} {t u t' u' : Tok} {Q : Value → Shared → Prop} (hu : A.units < cLine) (ha : IsTup s.heap a #[.int x t, .int y u]) (hb : IsTup s.heap b #[.int x' t', .int y' u'])
    (h : Q (.bool (!(x == x' && y == y'))) s) : wpAny (model prog w) A (compareOp .NotEq (.ref a) (.ref b)) Q E s := by
  have key := SeqAt.RcNeAt.tuples (A := A) (s := s) (e := fun j => if j = 0 then x == x' else y == y') ha hb hu ?_
  · refine key _ _ _ _ ?_
    have : (!((List.range (min (#[Value.int x t, Value.int y u] : Array Value).size (#[Value.int x' t', Value.int y' u'] : Array Value).size)).all (fun j => if j = 0 then x == x' else y == y') && (#[Value.int x t, Value.int y u] : Array Value).size == (#[Value.int x' t', Value.int y' u'] : Array Value).size)) = (!(x == x' && y == y')) := by
      simp [List.range, List.range.loop]
    rw [this]; exact h
  · intro j h1 h2
    match j, h1, h2 with
    | 0, _, _ => exact SeqAt.EqAt.int_int x t x' t'
    | 1, _, _ => exact SeqAt.EqAt.int_int y u y' u'
    | j + 2, h1, _ => simp at h1; omega
end
end Mine
namespace Mine
local macro_rules | `(tactic| walk_at "look") => `(tactic| first | assumption | exact upd_same _ _ _ | (refine (upd_other (by decide)).trans ?_; walk_at "look") | with_unfolding_all rfl)

def lawD : {d : DefRec // d = fnm (topSt 10)} := ⟨_, by conv => rhs; whnf⟩

def signs : List Nat := [97, 81, 233, 65393, 28450, 44032]
def sgn (k : Nat) : Str := ⟨#[signs.getD k 97]⟩
def wordOf (x : Int) : Str := Txt.join "" ((List.range (1 + x.natAbs % 3)).map fun k => sgn (x.natAbs / 3 / 6 ^ k % 6))
def wordsOf (ns : List Int) : List Str := ((ns ++ [9, 40, 7]).take 7).map wordOf

/-- names of the top that the law reads -/
structure NmsL (mg mb : Str → Option Value) (fb ff fc fk aS : Addr) : Prop where
  list : mg "list" = none ∧ mb "list" = some (.type "list")
  abs : mg "abs" = none ∧ mb "abs" = some (.builtin "abs")
  max : mg "max" = none ∧ mb "max" = some (.builtin "max")
  min : mg "min" = none ∧ mb "min" = some (.builtin "min")
  best : mg "_law_best" = some (.ref fb)
  filled : mg "_law_filled" = some (.ref ff)
  cut : mg "_law_cut" = some (.ref fc)
  cells : mg "_law_cells" = some (.ref fk)
  signs : mg "_law_SIGNS" = some (.ref aS)

inductive Path (n : Nat) (g : Nat → Int) : Nat → Nat → Nat → Prop
  | start {i : Nat} : g 0 = i → Path n g i 0 1
  | step {i j mask rows : Nat} : Path n g i mask rows → i < n → 0 < i → g i = j → Path n g j (mask + 2 ^ (i - 1)) (rows + 1)

/-- the ways, masks in their order -/
def waysOf (room : Int) (cs : List Int) : List (Int × Int) := (List.range (2 ^ (cs.length - 1))).filterMap fun (k : Nat) => cutF room (k : Int) cs

theorem wordsOf_length (ns : List Int) : 3 ≤ (wordsOf ns).length ∧ (wordsOf ns).length ≤ 7 := by
  unfold wordsOf; simp; omega
theorem sgn_al (k : Nat) : ∀ a ∈ (sgn k).cps.toList, a ∈ alphabet := by
  intro a ha
  have h : a = signs.getD k 97 := by simpa [sgn] using ha
  subst h
  match k with
  | 0 => decide
  | 1 => decide
  | 2 => decide
  | 3 => decide
  | 4 => decide
  | 5 => decide
  | k + 6 => show (97 : Nat) ∈ alphabet; decide
theorem empty_cps : ("" : Str).cps.toList = [] := by decide
theorem joinE_al : ∀ ys : List Str, (∀ y ∈ ys, ∀ a ∈ y.cps.toList, a ∈ alphabet) → ∀ a ∈ (Str.join "" ys).cps.toList, a ∈ alphabet
  | [], _, a, h => by simp [Str.join, Str.empty] at h
  | [x], hx, a, h => hx x List.mem_cons_self a h
  | x :: y :: r, hx, a, h => by
    rw [show Str.join "" (x :: y :: r) = x ++ "" ++ Str.join "" (y :: r) from rfl] at h
    rw [append_cps, append_cps] at h
    rcases List.mem_append.mp h with h | h
    · rcases List.mem_append.mp h with h | h
      · exact hx x List.mem_cons_self a h
      · rw [empty_cps] at h; cases h
    · exact joinE_al (y :: r) (fun z hz => hx z (List.mem_cons_of_mem _ hz)) a h
theorem joinE_size : ∀ ys : List Str, (∀ y ∈ ys, y.length = 1) → (Str.join "" ys).length = ys.length
  | [], _ => by simp [Str.join, Str.empty, Str.length]
  | [x], h => by simp [Str.join, h x List.mem_cons_self]
  | x :: y :: r, h => by
    have h1 := joinE_size (y :: r) fun z hz => h z (List.mem_cons_of_mem _ hz)
    have h2 := h x List.mem_cons_self
    rw [show Str.join "" (x :: y :: r) = x ++ "" ++ Str.join "" (y :: r) from rfl]
    have e : (x ++ "" ++ Str.join "" (y :: r)).length = x.length + 0 + (Str.join "" (y :: r)).length := by
      show (x.cps ++ ("" : Str).cps ++ _).size = _
      rw [Array.size_append, Array.size_append]; rfl
    rw [e, h1, h2]
    simp only [List.length_cons]; omega
theorem wordOf_eq (x : Int) : wordOf x = Str.join "" ((List.range (1 + x.natAbs % 3)).map fun k => sgn (x.natAbs / 3 / 6 ^ k % 6)) := StrLaws.glued_eq_join _ _
theorem wordOf_length (x : Int) : (wordOf x).length = 1 + x.natAbs % 3 := by
  rw [wordOf_eq, joinE_size]
  · simp
  · intro y hy; obtain ⟨k, _, rfl⟩ := List.mem_map.mp hy; rfl
theorem words_ok (ns : List Int) : WordsOk (wordsOf ns) := by
  refine ⟨fun y hy => ?_, fun y hy => ?_, by have := (wordsOf_length ns).2; omega⟩
  · obtain ⟨x, _, rfl⟩ := List.mem_map.mp hy
    rw [wordOf_eq]
    refine joinE_al _ fun z hz => ?_
    obtain ⟨k, _, rfl⟩ := List.mem_map.mp hz
    exact sgn_al _
  · obtain ⟨x, _, rfl⟩ := List.mem_map.mp hy
    rw [wordOf_length]; omega
theorem cells_bounds {x : Str} : (x.cps.size : Int) ≤ cellsOf x ∧ cellsOf x ≤ 2 * x.cps.size := by
  unfold cellsOf
  have : ∀ l : List Nat, (l.length : Int) ≤ (l.map cellOf).sum ∧ (l.map cellOf).sum ≤ 2 * l.length := by
    intro l
    induction l with
    | nil => simp
    | cons a l ih =>
      have := cellOf_bounds a
      simp only [List.map_cons, List.sum_cons, List.length_cons]; push_cast; omega
  simpa using this x.cps.toList
theorem word_cells (ns : List Int) : ∀ c ∈ (wordsOf ns).map cellsOf, 1 ≤ c ∧ c ≤ 6 := by
  intro c hc
  obtain ⟨y, hy, rfl⟩ := List.mem_map.mp hc
  obtain ⟨x, _, rfl⟩ := List.mem_map.mp hy
  have h1 := wordOf_length x
  have h2 := cells_bounds (x := wordOf x)
  unfold Str.length at h1
  omega

/-- tuples of ways, in a ledger -/
inductive WayL (tups : List (Addr × Obj)) : List Value → List (Int × Int) → Prop
  | nil : WayL tups [] []
  | cons {a : Addr} {o : Obj} {c r : Int} {t u : Tok} {vs : List Value} {wl : List (Int × Int)} : (a, o) ∈ tups → TObj [.int c t, .int r u] o → WayL tups vs wl → WayL tups (.ref a :: vs) ((c, r) :: wl)
theorem WayL.sub {tups tups' : List (Addr × Obj)} (k : ∀ p ∈ tups, p ∈ tups') : ∀ {vs : List Value} {wl : List (Int × Int)}, WayL tups vs wl → WayL tups' vs wl
  | _, _, .nil => .nil
  | _, _, .cons h o r => .cons (k _ h) o (WayL.sub k r)
theorem WayL.length {tups : List (Addr × Obj)} : ∀ {vs : List Value} {wl : List (Int × Int)}, WayL tups vs wl → vs.length = wl.length
  | _, _, .nil => rfl
  | _, _, .cons _ _ r => by simp [WayL.length r]

def intOf : Value → Int
  | .int i _ => i
  | _ => 0
def notNone (v : Value) : Bool := !(v == .none)

/-- what a comprehension over the masks leaves, as a ledger -/
theorem ways_ledger {h h' : Heap} {cut : Int → Option (Int × Int)} : ∀ {vs ys : List Value}, Paired (fun v y => CutVal h' y (cut (intOf v)) ∧ ∀ a, y = .ref a → h.get? a = none) vs ys →
    ∃ tups, (∀ p ∈ tups, h'.get? p.1 = some p.2 ∧ h.get? p.1 = none) ∧ WayL tups (ys.filter notNone) ((vs.map intOf).filterMap cut)
  | _, _, .nil => ⟨[], by simp, .nil⟩
  | v :: vs, y :: ys, .cons hy r => by
    obtain ⟨tups, h1, h2⟩ := ways_ledger r
    obtain ⟨hc, hf⟩ := hy
    rw [List.map_cons, List.filterMap_cons]
    cases e : cut (intOf v) with
    | none =>
      rw [e] at hc
      rw [show y = .none from hc]
      exact ⟨tups, h1, by simpa [List.filter_cons, notNone] using h2⟩
    | some p =>
      obtain ⟨c, r⟩ := p
      rw [e] at hc
      obtain ⟨a, t, u, rfl, o, ho, hcl, n, hd⟩ := hc
      refine ⟨(a, o) :: tups, fun p hp => ?_, ?_⟩
      · rcases List.mem_cons.mp hp with rfl | hp
        · exact ⟨ho, hf a rfl⟩
        · exact h1 p hp
      · have : notNone (.ref a) = true := by rfl
        rw [List.filter_cons, if_pos this]
        exact .cons List.mem_cons_self ⟨hcl, n, hd⟩ (h2.sub fun _ hq => List.mem_cons_of_mem _ hq)

/-- the first or the second of each way -/
theorem way_ints {h : Heap} {tups : List (Addr × Obj)} (F : Int → Int → Int) (k : ∀ p ∈ tups, h.get? p.1 = some p.2) : ∀ {vs ys : List Value} {wl : List (Int × Int)}, WayL tups vs wl → Paired (fun v y => ∃ a c r t u z, v = .ref a ∧ IsTup h a #[.int c t, .int r u] ∧ y = .int (F c r) z) vs ys →
    IntsAre ys (wl.map fun p => F p.1 p.2)
  | _, _, _, .nil, .nil => .nil
  | _, _, _, .cons (a := a) (c := c) (r := r) hm ho w, .cons hy p => by
    obtain ⟨a', c', r', t', u', z, e, ht, rfl⟩ := hy
    cases e
    obtain ⟨o', e1, _, n', e2⟩ := ht
    have e3 := k _ hm
    rw [e1] at e3; cases e3
    obtain ⟨_, n, e4⟩ := ho
    rw [e2] at e4
    cases e4
    exact .cons _ z (way_ints F k w p)
end Mine
namespace Mine

theorem Wd_one {cs : List Int} {i : Nat} (h : i < cs.length) : Wd cs i (i + 1) = cs[i] := by
  unfold Wd
  rw [List.drop_eq_getElem_cons h, show i + 1 - i = 1 by omega]
  simp only [List.take_succ_cons, List.take_zero, List.sum_cons, List.sum_nil]
  push_cast; omega
theorem Wd_pos {cs : List Int} (hc : ∀ c ∈ cs, 0 ≤ c) {i j : Nat} (hij : i < j) : 0 ≤ Wd cs i j := by
  unfold Wd
  have : 0 ≤ ((cs.drop i).take (j - i)).sum := by
    have key : ∀ l : List Int, (∀ c ∈ l, 0 ≤ c) → 0 ≤ l.sum := by
      intro l
      induction l with
      | nil => simp
      | cons a l ih =>
        intro h
        have := ih fun c hc => h c (List.mem_cons_of_mem _ hc)
        have := h a List.mem_cons_self
        simp; omega
    exact key _ fun c h => hc c (List.mem_of_mem_drop (List.mem_of_mem_take h))
  omega

/-- sums from the front -/
def pre (cs : List Int) (k : Nat) : Int := (cs.take k).sum
theorem sum_nonneg : ∀ l : List Int, (∀ c ∈ l, 0 ≤ c) → 0 ≤ l.sum
  | [], _ => by simp
  | a :: l, h => by
    have h1 := sum_nonneg l fun c hc => h c (List.mem_cons_of_mem _ hc)
    have h2 := h a List.mem_cons_self
    rw [List.sum_cons]; omega
theorem pre_split {cs : List Int} {i j : Nat} (h : i ≤ j) : pre cs j = pre cs i + ((cs.drop i).take (j - i)).sum := by
  unfold pre
  have e : cs.take j = cs.take i ++ (cs.drop i).take (j - i) := by
    have := List.take_add (l := cs) (i := i) (j := j - i)
    rw [show i + (j - i) = j by omega] at this
    exact this
  rw [e, List.sum_append]
theorem Wd_pre {cs : List Int} {i j : Nat} (h : i ≤ j) : Wd cs i j = pre cs j - pre cs i + ((j : Int) - i - 1) := by
  unfold Wd; rw [pre_split h]; omega
theorem pre_mono {cs : List Int} (hc : ∀ c ∈ cs, 0 ≤ c) {i j : Nat} (h : i ≤ j) : pre cs i ≤ pre cs j := by
  rw [pre_split h]
  have := sum_nonneg ((cs.drop i).take (j - i)) fun c hm => hc c (List.mem_of_mem_drop (List.mem_of_mem_take hm))
  omega
theorem Wd_mono {cs : List Int} (hc : ∀ c ∈ cs, 0 ≤ c) {i j i' j' : Nat} (h : i < j) (hi : i' ≤ i) (hj : j ≤ j') : Wd cs i j ≤ Wd cs i' j' := by
  rw [Wd_pre (by omega), Wd_pre (by omega)]
  have := pre_mono hc hi
  have := pre_mono hc hj
  omega
theorem Wd_succ {cs : List Int} {i j : Nat} (h : i < j) (hj : j < cs.length) : Wd cs i (j + 1) = Wd cs i j + (1 + cs[j]) := by
  rw [Wd_pre (by omega), Wd_pre (by omega)]
  have : pre cs (j + 1) = pre cs j + cs[j] := by
    unfold pre; rw [List.take_add_one, List.sum_append, List.getElem?_eq_getElem hj]; simp
  rw [this]; push_cast; omega

theorem bit_nat (M k : Nat) : (((M : Int).fdiv (2 ^ k)).fmod 2 = 1) ↔ (M / 2 ^ k) % 2 = 1 := by
  have h2 : (0 : Int) ≤ 2 ^ k := Int.le_of_lt (Int.pow_pos (by omega))
  rw [Int.fdiv_eq_ediv_of_nonneg _ h2, Int.fmod_eq_emod_of_nonneg _ (by omega)]
  have e : ((M : Int) / 2 ^ k) % 2 = ((M / 2 ^ k % 2 : Nat) : Int) := by push_cast; rfl
  rw [e]; omega

section
variable {cs : List Int} {room : Int} {f : Nat → Option Int} {g : Nat → Int} {b : Int}

theorem go_none {M : Int} {k : Nat} {cost rows width : Int} : cutGo room M k [] cost rows width = if room < width then none else some (cost, rows) := by simp [cutGo]
theorem go_cons {M k : Nat} {c : Int} {r : List Int} {cost rows width : Int} : cutGo room (M : Int) (k + 1) (c :: r) cost rows width =
    if (M / 2 ^ k) % 2 = 1 then (if room < width then none else cutGo room M (k + 1 + 1) r (cost + (room - width) ^ 2) (rows + 1) c) else cutGo room M (k + 1 + 1) r cost rows (width + (1 + c)) := by
  rw [cutGo]
  simp only [Nat.add_sub_cancel, bit_nat]

/-- whatever a way costs, the reckoning costs no more -/
theorem go_least (hc : ∀ c ∈ cs, 0 ≤ c) (D : DP cs.length room (Wd cs) 0 f g) (M : Nat) : ∀ (d k i : Nat) (cost rows : Int) (p : Int × Int), cs.length - (k + 1) = d → i < k + 1 → k + 1 ≤ cs.length → cutGo room M (k + 1) (cs.drop (k + 1)) cost rows (Wd cs i (k + 1)) = some p →
    ∃ fi, f i = some fi ∧ cost + fi ≤ p.1 := by
  intro d
  induction d with
  | zero =>
    intro k i cost rows p hd hi hk h
    have e : k + 1 = cs.length := by omega
    rw [List.drop_of_length_le (by omega), go_none] at h
    split at h
    · cases h
    · cases h
      obtain ⟨b, bj, h1, h2, h3⟩ := (D.at' i (by omega) (by omega)).least cs.length (by omega) (Nat.le_refl _) fun q h1 h2 => by
        have := Wd_mono hc (i := i) (j := q) (i' := i) (j' := k + 1) h1 (Nat.le_refl _) (by omega)
        omega
      exact ⟨b, h1, by rw [cst, if_pos rfl] at h3; show cost + b ≤ cost; omega⟩
  | succ d ih =>
    intro k i cost rows p hd hi hk h
    have hlt : k + 1 < cs.length := by omega
    rw [List.drop_eq_getElem_cons hlt, go_cons] at h
    split at h
    · split at h
      · cases h
      · rename_i hfit
        rw [← Wd_one hlt] at h
        obtain ⟨fk, e1, e2⟩ := ih (k + 1) (k + 1) _ _ p (by omega) (by omega) (by omega) h
        obtain ⟨b, bj, h1, h2, h3⟩ := (D.at' i (by omega) (by omega)).least (k + 1) (by omega) (by omega) fun q h1 h2 => by
          have := Wd_mono hc (i := i) (j := q) (i' := i) (j' := k + 1) h1 (Nat.le_refl _) h2
          omega
        rw [e1] at h2; cases h2
        refine ⟨b, h1, ?_⟩
        rw [cst, if_neg (by omega)] at h3
        omega
    · rw [← Wd_succ (by omega) hlt] at h
      exact ih (k + 1) i cost rows p (by omega) (by omega) (by omega) h

theorem cutF_start (hn : cs ≠ []) (M : Nat) : cutF room M cs = cutGo room M 1 (cs.drop 1) 0 1 (Wd cs 0 1) := by
  obtain ⟨a, l, rfl⟩ := List.exists_cons_of_ne_nil hn
  rw [Wd_one (by simp)]; rfl
theorem way_mem {p : Int × Int} : p ∈ waysOf room cs ↔ ∃ M : Nat, M < 2 ^ (cs.length - 1) ∧ cutF room (M : Int) cs = some p := by
  unfold waysOf
  rw [List.mem_filterMap]
  simp only [List.mem_range]

theorem best_least (hc : ∀ c ∈ cs, 1 ≤ c) (_hr : ∀ c ∈ cs, c ≤ room) (hn : cs ≠ []) (D : DP cs.length room (Wd cs) 0 f g) (hb : f 0 = some b) : ∀ p ∈ waysOf room cs, b ≤ p.1 := by
  intro p hp
  obtain ⟨M, _, h⟩ := way_mem.mp hp
  have hl : 0 < cs.length := List.length_pos_iff.mpr hn
  rw [cutF_start hn] at h
  obtain ⟨fi, e1, e2⟩ := go_least (fun c h => by have := hc c h; omega) D M _ 0 0 0 1 p rfl (by omega) (by omega) h
  rw [hb] at e1; cases e1
  omega

/-- a way from the row that begins at i and ends at j -/
inductive Ch (cs : List Int) (room : Int) : Nat → Nat → Nat → Nat → Int → Prop
  | last {i : Nat} : i < cs.length → Wd cs i cs.length ≤ room → Ch cs room i cs.length 0 0 0
  | more {i j j' mk rw : Nat} {co : Int} : i < j → j < cs.length → Wd cs i j ≤ room → Ch cs room j j' mk rw co → Ch cs room i j (2 ^ (j - 1) + mk) (rw + 1) ((room - Wd cs i j) ^ 2 + co)

theorem Ch.lt {i j mk rw : Nat} {co : Int} (h : Ch cs room i j mk rw co) : i < j ∧ j ≤ cs.length := by
  cases h with
  | last h1 h2 => exact ⟨h1, Nat.le_refl _⟩
  | more h1 h2 h3 h4 => exact ⟨h1, Nat.le_of_lt h2⟩
theorem Ch.fit {i j mk rw : Nat} {co : Int} (h : Ch cs room i j mk rw co) : Wd cs i j ≤ room := by
  cases h with
  | last h1 h2 => exact h2
  | more h1 h2 h3 h4 => exact h3
theorem two_half {i j : Nat} (h0 : 0 < i) (h : i < j) : 2 * 2 ^ (i - 1) ≤ 2 ^ (j - 1) := by
  have : 2 * 2 ^ (i - 1) = 2 ^ i := by rw [← Nat.pow_succ', show (i - 1).succ = i by omega]
  rw [this]; exact Nat.pow_le_pow_right (by decide) (by omega)
theorem Ch.mask {i j mk rw : Nat} {co : Int} (h : Ch cs room i j mk rw co) : 2 ^ (j - 1) ∣ mk ∧ mk + 2 ^ (j - 1) ≤ 2 ^ (cs.length - 1) := by
  induction h with
  | last h1 h2 => exact ⟨⟨0, rfl⟩, by omega⟩
  | @more i j j' mk rw co h1 h2 h3 h4 ih =>
    obtain ⟨⟨t, ht⟩, hb⟩ := ih
    have hj := h4.lt.1
    have h2' := two_half (by omega : 0 < j) hj
    refine ⟨Nat.dvd_add (Nat.dvd_refl _) (Nat.dvd_trans (Nat.pow_dvd_pow 2 (by omega)) ⟨t, ht⟩), by omega⟩

theorem go_chain (M : Nat) {i j mk rw : Nat} {co : Int} (h : Ch cs room i j mk rw co) : ∀ (d k : Nat) (cost rows : Int), j - (k + 1) = d → i < k + 1 → k + 1 ≤ j → M / 2 ^ k = mk / 2 ^ k →
    cutGo room M (k + 1) (cs.drop (k + 1)) cost rows (Wd cs i (k + 1)) = some (cost + co, rows + rw) := by
  induction h with
  | @last i h1 h2 =>
    intro d
    induction d with
    | zero =>
      intro k cost rows hd hi hk hM
      have e : k + 1 = cs.length := by omega
      rw [List.drop_of_length_le (by omega), go_none, e, if_neg (by omega)]
      simp
    | succ d ih =>
      intro k cost rows hd hi hk hM
      have hlt : k + 1 < cs.length := by omega
      rw [List.drop_eq_getElem_cons hlt, go_cons, if_neg (by rw [hM]; simp), ← Wd_succ (by omega) hlt]
      exact ih (k + 1) cost rows (by omega) (by omega) (by omega) (by rw [Nat.pow_succ, ← Nat.div_div_eq_div_mul, hM, Nat.div_div_eq_div_mul])
  | @more i j j' mk rw co h1 h2 h3 h4 ih4 =>
    obtain ⟨⟨t, ht⟩, _⟩ := h4.mask
    have hj := h4.lt.1
    intro d
    induction d with
    | zero =>
      intro k cost rows hd hi hk hM
      have e : k + 1 = j := by omega
      subst e
      have hev : mk = 2 ^ (k + 1) * (2 ^ (j' - 1 - (k + 1)) * t) := by
        rw [ht, ← Nat.mul_assoc, ← Nat.pow_add, show k + 1 + (j' - 1 - (k + 1)) = j' - 1 by omega]
      have hbit : (2 ^ (k + 1 - 1) + mk) / 2 ^ k = 1 + 2 * (2 ^ (j' - 1 - (k + 1)) * t) := by
        rw [hev, Nat.add_sub_cancel, Nat.pow_succ]
        rw [show 2 ^ k + 2 ^ k * 2 * (2 ^ (j' - 1 - (k + 1)) * t) = 2 ^ k * (1 + 2 * (2 ^ (j' - 1 - (k + 1)) * t)) by rw [Nat.mul_add, Nat.mul_one, Nat.mul_assoc]]
        exact Nat.mul_div_cancel_left _ (Nat.two_pow_pos k)
      have hb1 : M / 2 ^ k % 2 = 1 := by rw [hM, hbit]; omega
      rw [List.drop_eq_getElem_cons h2, go_cons, if_pos hb1, if_neg (by omega), ← Wd_one h2]
      rw [ih4 _ (k + 1) _ _ rfl (by omega) (by omega) ?_]
      · congr 2
        · omega
        · push_cast; omega
      · rw [Nat.pow_succ, ← Nat.div_div_eq_div_mul, hM, hbit]
        have : mk / (2 ^ k * 2) = 2 ^ (j' - 1 - (k + 1)) * t := by
          rw [← Nat.pow_succ]; conv => lhs; rw [hev]
          exact Nat.mul_div_cancel_left _ (Nat.two_pow_pos _)
        rw [this]; omega
    | succ d ih =>
      intro k cost rows hd hi hk hM
      have hlt : k + 1 < cs.length := by omega
      have hdv : 2 ^ (k + 1) ∣ (2 ^ (j - 1) + mk) := Nat.dvd_add (Nat.pow_dvd_pow 2 (by omega)) (Nat.dvd_trans (Nat.pow_dvd_pow 2 (by omega)) ⟨t, ht⟩)
      obtain ⟨q, hq⟩ := hdv
      have hb0 : ¬ (M / 2 ^ k % 2 = 1) := by
        rw [hM, hq, Nat.pow_succ, Nat.mul_assoc, Nat.mul_div_cancel_left _ (Nat.two_pow_pos k)]; omega
      rw [List.drop_eq_getElem_cons hlt, go_cons, if_neg hb0, ← Wd_succ (by omega) hlt]
      exact ih (k + 1) cost rows (by omega) (by omega) (by omega) (by rw [Nat.pow_succ, ← Nat.div_div_eq_div_mul, hM, Nat.div_div_eq_div_mul])

theorem chain_way (hn : cs ≠ []) {j mk rw : Nat} {co : Int} (h : Ch cs room 0 j mk rw co) : cutF room (mk : Int) cs = some (co, 1 + (rw : Int)) ∧ (co, 1 + (rw : Int)) ∈ waysOf room cs := by
  have hj := h.lt
  have e : cutF room (mk : Int) cs = some (co, 1 + (rw : Int)) := by
    rw [cutF_start hn]
    have := go_chain (M := mk) h _ 0 0 1 rfl (by omega) (by omega) rfl
    rw [this]; simp
  refine ⟨e, way_mem.mpr ⟨mk, ?_, e⟩⟩
  have := h.mask.2
  have := Nat.two_pow_pos (j - 1)
  omega

/-- what is left of a path -/
inductive Suf (n : Nat) (g : Nat → Int) : Nat → Nat → Nat → Prop
  | nil : Suf n g n 0 0
  | step {i j mk rw : Nat} : i < n → g i = j → Suf n g j mk rw → Suf n g i (2 ^ (i - 1) + mk) (rw + 1)
theorem path_suf {n i m r : Nat} (h : Path n g i m r) : ∀ mk rw, Suf n g i mk rw → ∃ j mk' rw', g 0 = (j : Nat) ∧ Suf n g j mk' rw' ∧ m + mk = mk' ∧ r + rw = 1 + rw' := by
  induction h with
  | start h0 => intro mk rw s; exact ⟨_, mk, rw, h0, s, by omega, by omega⟩
  | @step i j m r _ hi h0 hg ih =>
    intro mk rw s
    obtain ⟨j1, mk', rw', h1, h2, h3, h4⟩ := ih _ _ (.step hi hg s)
    exact ⟨j1, mk', rw', h1, h2, by omega, by omega⟩
theorem suf_chain (D : DP cs.length room (Wd cs) 0 f g) {j mk rw : Nat} (h : Suf cs.length g j mk rw) : ∀ i, i < cs.length → g i = (j : Nat) → ∃ fi, f i = some fi ∧ Ch cs room i j mk rw fi := by
  induction h with
  | nil =>
    intro i hi hg
    obtain ⟨b, j, bj, h1, h2, h3, h4, h5, h6, h7⟩ := (D.at' i (by omega) hi).val
    have : j = cs.length := by rw [hg] at h2; omega
    subst this
    rw [cst, if_pos rfl] at h7
    subst h7
    exact ⟨0, h1, .last hi h5⟩
  | @step j j' mk rw hj hg' _ ih =>
    intro i hi hg
    obtain ⟨fj, e1, e2⟩ := ih j hj hg'
    obtain ⟨b, j2, bj, h1, h2, h3, h4, h5, h6, h7⟩ := (D.at' i (by omega) hi).val
    have : j2 = j := by rw [hg] at h2; omega
    subst this
    rw [e1] at h6; cases h6
    rw [cst, if_neg (by omega)] at h7
    subst h7
    exact ⟨_, h1, .more h3 hj h5 e2⟩

theorem path_way (_hc : ∀ c ∈ cs, 1 ≤ c) (hn : cs ≠ []) (D : DP cs.length room (Wd cs) 0 f g) (hb : f 0 = some b) {mask rows : Nat} (h : Path cs.length g cs.length mask rows) :
    cutF room (mask : Nat) cs = some (b, ((rows : Nat) : Int)) ∧ (b, (rows : Int)) ∈ waysOf room cs := by
  have hl : 0 < cs.length := List.length_pos_iff.mpr hn
  obtain ⟨j, mk', rw', h1, h2, h3, h4⟩ := path_suf h 0 0 .nil
  obtain ⟨fi, e1, e2⟩ := suf_chain D h2 0 hl h1
  rw [hb] at e1; cases e1
  have key := chain_way hn e2
  have e3 : (1 + (rw' : Int)) = (rows : Int) := by omega
  have e4 : mk' = mask := by omega
  rw [e3, e4] at key
  exact key

/-- the rows that greed takes from i on -/
inductive Greed (cs : List Int) (room : Int) : Nat → Nat → Prop
  | nil : Greed cs room cs.length 0
  | row {i j s : Nat} : i < j → j ≤ cs.length → (j = cs.length ∨ room < Wd cs i (j + 1)) → Greed cs room j s → Greed cs room i (s + 1)
theorem filled_greed {i r : Nat} (h : Filled cs.length room (Wd cs) i r) : ∀ s, Greed cs room i s → Greed cs room 0 (r + s) := by
  induction h with
  | start => intro s h; simpa using h
  | @row i r j _ h1 h2 _ h4 ih =>
    intro s hs
    have := ih _ (.row h1 h2 h4 hs)
    rwa [show r + (s + 1) = r + 1 + s by omega] at this
theorem filled_chain (hr : ∀ c ∈ cs, c ≤ room) {i r : Nat} (h : Filled cs.length room (Wd cs) i r) : ∀ j mk rw co, Ch cs room i j mk rw co → ∃ j0 mk0 co0, Ch cs room 0 j0 mk0 (r + rw) co0 := by
  induction h with
  | start => intro j mk rw co h; exact ⟨j, mk, co, by simpa using h⟩
  | @row i r j _ h1 h2 h3 h4 ih =>
    intro j' mk rw co hch
    have hfit : Wd cs i j ≤ room := by
      by_cases e : j = i + 1
      · subst e; rw [Wd_one (by omega)]; exact hr _ (List.getElem_mem _)
      · exact h3 j (by omega) (Nat.le_refl _)
    obtain ⟨j0, mk0, co0, h⟩ := ih _ _ _ _ (.more h1 (Nat.lt_of_lt_of_le hch.lt.1 hch.lt.2) hfit hch)
    exact ⟨j0, mk0, co0, by rwa [show r + (rw + 1) = r + 1 + rw by omega] at h⟩

/-- greed stays ahead of every way -/
theorem go_greed (hc : ∀ c ∈ cs, 0 ≤ c) (M : Nat) : ∀ (d k p i s : Nat) (cost rows : Int) (q : Int × Int), cs.length - (k + 1) = d → p < k + 1 → k + 1 ≤ cs.length → p ≤ i → Greed cs room i s → cutGo room M (k + 1) (cs.drop (k + 1)) cost rows (Wd cs p (k + 1)) = some q →
    rows + s ≤ q.2 + 1 := by
  intro d
  induction d with
  | zero =>
    intro k p i s cost rows q hd hp hk hpi G h
    have e : k + 1 = cs.length := by omega
    rw [List.drop_of_length_le (by omega), go_none] at h
    split at h
    · cases h
    · rename_i hfit
      cases h
      show rows + (s : Int) ≤ rows + 1
      cases G with
      | nil => simp; omega
      | @row i j s h1 h2 h3 h4 =>
        have hj : j = cs.length := by
          rcases h3 with h | h
          · exact h
          · rcases Nat.lt_or_ge j cs.length with hlt | hge
            · have := Wd_mono hc (i := i) (j := j + 1) (i' := p) (j' := k + 1) (by omega) hpi (by omega)
              omega
            · omega
        subst hj
        cases h4 with
        | nil => simp
        | row h1 h2 _ _ => omega
  | succ d ih =>
    intro k p i s cost rows q hd hp hk hpi G h
    have hlt : k + 1 < cs.length := by omega
    rw [List.drop_eq_getElem_cons hlt, go_cons] at h
    split at h
    · split at h
      · cases h
      · rename_i hfit
        rw [← Wd_one hlt] at h
        rcases Nat.lt_or_ge i (k + 1) with hik | hik
        · cases G with
          | nil => omega
          | @row i j s h1 h2 h3 h4 =>
            have hkj : k + 1 ≤ j := by
              rcases Nat.lt_or_ge j (k + 1) with hjk | hjk
              · rcases h3 with h | h
                · omega
                · have := Wd_mono hc (i := i) (j := j + 1) (i' := p) (j' := k + 1) (by omega) hpi (by omega)
                  omega
              · exact hjk
            have := ih (k + 1) (k + 1) j s _ _ q (by omega) (by omega) (by omega) hkj h4 h
            push_cast; omega
        · have := ih (k + 1) (k + 1) i s _ _ q (by omega) (by omega) (by omega) hik G h
          omega
    · rw [← Wd_succ (by omega) hlt] at h
      exact ih (k + 1) p i s cost rows q (by omega) (by omega) (by omega) hpi G h

theorem filled_least (hc : ∀ c ∈ cs, 1 ≤ c) (hr : ∀ c ∈ cs, c ≤ room) (hn : cs ≠ []) {r : Nat} (h : Filled cs.length room (Wd cs) cs.length r) : (∀ p ∈ waysOf room cs, (r : Int) ≤ p.2) ∧ ∃ c, (c, (r : Int)) ∈ waysOf room cs := by
  have hl : 0 < cs.length := List.length_pos_iff.mpr hn
  refine ⟨fun p hp => ?_, ?_⟩
  · obtain ⟨M, _, hw⟩ := way_mem.mp hp
    rw [cutF_start hn] at hw
    have := go_greed (fun c h => by have := hc c h; omega) M _ 0 0 0 r 0 1 p rfl (by omega) (by omega) (Nat.le_refl _) (filled_greed h 0 .nil) hw
    omega
  · generalize hL : cs.length = L at h
    cases h with
    | start => omega
    | @row i r _ hF h1 h2 h3 h4 =>
      subst hL
      have hfit : Wd cs i cs.length ≤ room := by
        by_cases e : cs.length = i + 1
        · rw [e, Wd_one (by omega)]; exact hr _ (List.getElem_mem _)
        · exact h3 cs.length (by omega) (Nat.le_refl _)
      obtain ⟨j0, mk0, co0, hch⟩ := filled_chain hr hF _ _ _ _ (.last h1 hfit)
      have := (chain_way hn hch).2
      refine ⟨co0, ?_⟩
      have e : (1 + ((r + 0 : Nat) : Int)) = ((r + 1 : Nat) : Int) := by push_cast; omega
      rw [e] at this; exact this
end
end Mine
namespace Mine
local macro_rules | `(tactic| walk_at "look") => `(tactic| first | assumption | exact upd_same _ _ _ | (refine (upd_other (by decide)).trans ?_; walk_at "look") | with_unfolding_all rfl)

theorem paired_strs {F : Value → Str} : ∀ {vs ys : List Value}, Paired (fun v y => ∃ t, y = .str (F v) t) vs ys → StrsAre ys (vs.map F)
  | _, _, .nil => .nil
  | _, _, .cons ⟨t, e⟩ r => by subst e; exact .cons _ t (paired_strs r)
theorem range_vals {α : Type} {n : Nat} {vs : List Value} (hlen : vs.length = n) (hP : ∀ (j : Nat) v, vs[j]? = some v → ∃ t, v = Value.int (0 + (j : Int) * 1) t) (G : Int → α) : vs.map (fun v => G (intOf v)) = (List.range n).map fun (j : Nat) => G j := by
  apply List.ext_getElem?
  intro j
  rw [List.getElem?_map, List.getElem?_map]
  cases e : vs[j]? with
  | none =>
    have : n ≤ j := by rw [← hlen]; exact List.getElem?_eq_none_iff.mp e
    rw [List.getElem?_eq_none (by simp; omega)]; rfl
  | some v =>
    obtain ⟨t, rfl⟩ := hP j v e
    have : j < n := by rw [← hlen]; exact (List.getElem?_eq_some_iff.mp e).1
    rw [List.getElem?_range this]
    simp [intOf]
theorem strs_append : ∀ {vs us : List Value} {ys zs : List Str}, StrsAre vs ys → StrsAre us zs → StrsAre (vs ++ us) (ys ++ zs)
  | _, _, _, _, .nil, h => h
  | _, _, _, _, .cons y t r, h => .cons y t (strs_append r h)
theorem FnAt.obj {d : DefRec} {h : Heap} {f : Addr} (x : FnAt d h f) : ∃ o fd, h.get? f = some o ∧ o.data = .func fd := let ⟨o, _, _, _, a, b, _⟩ := x; ⟨o, _, a, b⟩
def cellsV : Value → Int
  | .str y _ => cellsOf y
  | _ => 0
theorem strs_cells : ∀ {vs : List Value} {ys : List Str}, StrsAre vs ys → vs.map cellsV = ys.map cellsOf
  | _, _, .nil => rfl
  | _, _, .cons _ _ r => by simp [cellsV, strs_cells r]
theorem same_items {vs us : List Value} (h1 : vs.length = us.toArray.size) (h2 : ∀ (j : Nat) v, vs[j]? = some v → us.toArray[j]? = some v) : vs = us := by
  apply List.ext_getElem?
  intro j
  cases e : vs[j]? with
  | none =>
    have : us.length ≤ j := by
      have := List.getElem?_eq_none_iff.mp e
      simp at h1; omega
    rw [List.getElem?_eq_none this]
  | some v => simpa using (h2 j v e).symm
theorem Sta.many {h₀ h : Heap} {L : Addr} {m : Str → Option Value} {news tups : List (Addr × Obj)} (S : Sta h₀ L m news h) (ht : ∀ p ∈ tups, h.get? p.1 = some p.2 ∧ p.1 ≠ L ∧ h₀.get? p.1 = none) : Sta h₀ L m (tups ++ news) h :=
  ⟨S.fr, fun p hp => (List.mem_append.mp hp).elim (ht p) (S.nw p)⟩
theorem paired_eq : ∀ {vs ys : List Value}, Paired (fun v z => z = v) vs ys → ys = vs
  | _, _, .nil => rfl
  | _, _, .cons h r => by rw [h, paired_eq r]
theorem WayL.at {tups : List (Addr × Obj)} : ∀ {vs : List Value} {wl : List (Int × Int)}, WayL tups vs wl → ∀ v ∈ vs, ∃ a o c r t u, v = .ref a ∧ (a, o) ∈ tups ∧ TObj [.int c t, .int r u] o
  | _, _, .nil, _, h => by cases h
  | _, _, .cons hm ho w, v, h => by
    rcases List.mem_cons.mp h with rfl | h
    · exact ⟨_, _, _, _, _, _, rfl, hm, ho⟩
    · exact w.at v h
theorem six_ne (i : Nat) : (6 : Int) ^ i ≠ 0 := Int.ne_of_gt (Int.pow_pos (by omega))
theorem six_small {i : Nat} (h : i ≤ 4) : ((6 : Int) ^ i).natAbs < 1073741824 := by
  rw [Int.natAbs_pow]
  exact Nat.lt_of_le_of_lt (Nat.pow_le_pow_right (by decide) h) (by decide)
theorem sign_idx (a k : Nat) : ((((a : Int).fdiv 3).fdiv (6 ^ k)).fmod 6) = ((a / 3 / 6 ^ k % 6 : Nat) : Int) := by
  have h6 : (0 : Int) ≤ 6 ^ k := Int.le_of_lt (Int.pow_pos (by omega))
  rw [Int.fdiv_eq_ediv_of_nonneg _ h6, Int.fdiv_eq_ediv_of_nonneg (a : Int) (show (0 : Int) ≤ 3 by omega), Int.fmod_eq_emod_of_nonneg _ (by omega)]
  push_cast; rfl
theorem idx_ok {j n : Nat} (h : j < n) : seqIndex? (j : Int) n = some j := by
  unfold seqIndex?
  simp
  omega
theorem sign_at {sv : List Value} (hsv : StrsAre sv (signs.map fun k => (⟨#[k]⟩ : Str))) {j : Nat} (hj : j < 6) : ∃ t, sv[j]? = some (.str (sgn j) t) ∧ sv.length = 6 := by
  have h6 : sv.length = 6 := (strs_length hsv).trans (by decide)
  have key : ∀ {vs : List Value} {ys : List Str}, StrsAre vs ys → ∀ (j : Nat) y, ys[j]? = some y → ∃ t, vs[j]? = some (Value.str y t) := by
    intro vs ys h
    induction h with
    | nil => intro j y e; cases e
    | cons y t r ih =>
      intro j z e
      match j with
      | 0 => simp at e; subst e; exact ⟨t, rfl⟩
      | j + 1 => exact ih j z (by simpa using e)
  obtain ⟨t, ht⟩ := key hsv j (sgn j) (by
    match j, hj with
    | 0, _ => rfl
    | 1, _ => rfl
    | 2, _ => rfl
    | 3, _ => rfl
    | 4, _ => rfl
    | 5, _ => rfl)
  exact ⟨t, ht, h6⟩

/-- the least of the first or the second of the ways -/
theorem EvX.minWays {prog : Program} {w : World} {A : Around} {env : Env} {h : Heap} {x : Str} {np px pi p1 p2 p3 pos cpos : Pos} {kk : Nat} {k : Int} {j : Nat} {Dv : Addr} {zs : Array Value} {tups : List (Addr × Obj)} {wl : List (Int × Int)} {scope : Scope} (F : Int → Int → Int)
    (hh : A.handled = none) (hf : EvP prog w A env h (.Name x np) (Is (.builtin "min"))) (hsrc : EvP prog w A env h (.Name "ways" pi) (Is (.ref Dv))) (hl : h.IsList Dv zs) (hw : WayL tups zs.toList wl) (ht : ∀ p ∈ tups, h.get? p.1 = some p.2) (hsz : zs.size ≤ sizeLine) (hne : wl ≠ [])
    (hk0 : 0 ≤ k) (hk1 : k < 2) (hj : k.toNat = j) (hF : ∀ c r t u, ([Value.int c t, Value.int r u] : List Value)[j]? = some (.int (F c r) (if j = 0 then t else u)))
    (hL : ∃ o, h.get? env.locals = some o)
    (hk' : ∀ C, (compEnvC scope [] C env).scope.kind = .function := by intro _; rfl) (hl' : ∀ C, (compEnvC scope [] C env).kindOf "way" = some .local := by intro _; rfl)
    (hclos : closureFor scope env = pure [] := by rfl) (hcell : ∀ y ∈ scope.names, y.2 ≠ .cell := by decide) (hkind : scope.kind = .function := by rfl)
    (hnames : ∀ y ∈ scope.names, y.2 = .local → scope.names.lookup y.1 = some .local := by decide) (hx : scope.names.lookup ("way" : Str) = some .local := by rfl)
    (hs : ∀ x, foldedSetIterable (.Name "ways" pi) env x = pure x := by intro _; rfl)
    (hst : starEach [.ListComp (.Subscript (.Name "way" p1) (.Constant (.int k) kk p2) p3) [⟨.Name "way" px, .Name "ways" pi, [], 0⟩] scope pos] env = [(false, eval (.ListComp (.Subscript (.Name "way" p1) (.Constant (.int k) kk p2) p3) [⟨.Name "way" px, .Name "ways" pi, [], 0⟩] scope pos) env)] := by rfl) :
    EvX prog w A env h (.Call (.Name x np) [.ListComp (.Subscript (.Name "way" p1) (.Constant (.int k) kk p2) p3) [⟨.Name "way" px, .Name "ways" pi, [], 0⟩] scope pos] [] cpos) (fun v _ => ∃ N, IsI N v ∧ N ∈ (wl.map fun p => F p.1 p.2) ∧ ∀ n ∈ (wl.map fun p => F p.1 p.2), N ≤ n) := by
  refine EvX.minList (ns := wl.map fun p => F p.1 p.2) hh hf (EvX.comp (n := zs.size) (P := fun i v => zs[i]? = some v) (fun _ => true) (fun v y _ => ∃ a c r t u z, v = .ref a ∧ IsTup h a #[.int c t, .int r u] ∧ y = .int (F c r) z) (Src.list hh hsrc hl) hsz hL ⟨?_, ?_⟩ hclos hcell hkind hnames hx hs) ?_ (by simpa using hne) hst
  · intro C i v s m E _ _ _ _
    exact wpAny_tests_nil ⟨rfl, .rfl', .rfl'⟩
  · intro X C i v s₃ m E hPv _ hn hv hE _
    have hm : v ∈ zs.toList := by
      rw [← Array.getElem?_toList] at hPv
      exact List.mem_of_getElem? hPv
    obtain ⟨a, o, c, r, t, u, rfl, hmem, ho⟩ := hw.at v hm
    have htup := ho.isTup (ht _ hmem)
    refine (EvP.titem (l := a) (items := [.int c t, .int r u]) (k := k) (j := j) (P := (· = .int (F c r) (if j = 0 then t else u))) (EvP.loc (P := Is (.ref a)) hn hv rfl (hk' C) (hl' C)) EvP.lit (htup.keeps hE) (by omega) (by omega) (by rw [← hj]; exact seqIndex_of hk0 (by simpa using hk1)) (hF c r t u) rfl : EvP prog w _ _ _ _ _) _ _ s₃ rfl ?_
    intro y s₄ r₄ e₄ hy
    exact ⟨r₄, by rw [e₄]; exact Ext.rfl', fun _ _ => ⟨a, c, r, t, u, _, rfl, htup, hy⟩⟩
  · rintro v h' ⟨D, ys, vs, rfl, _, hpl, hlen, hP, hP2⟩
    rw [List.filter_eq_self.mpr (by intro _ _; rfl)] at hP2
    have hvs : vs = zs.toList := same_items (us := zs.toList) (by simpa using hlen) (by simpa using hP)
    rw [hvs] at hP2
    exact ⟨D, ys.toList, rfl, by simpa using hpl.isList, way_ints F ht hw hP2⟩


theorem law_tail {prog : Program} {w : World} {A : Around} {E : Value → Shared → Prop} {s : Shared} {mg mb : Str → Option Value} {H : Heap} {c P fD f L Dc D Dv : Addr} {code : Value} {fb ff fc fk aS : Addr} {wv : List Value} {ws : List Str} {cs : List Int} {room b0 : Int} {tr u z : Tok} {mask rows : Nat} {cv zs : Array Value} {vT : Value}
    {m : Str → Option Value} {oP : Obj} {rest tups : List (Addr × Obj)} {Q : Value → Shared → Prop}
    (hh' : (A.deeper (envOfC lawD.1.name lawD.1.scope L f code)).handled = none) (hd : A.depth + 3 < recursionLimit) (hu : (A.deeper (envOfC lawD.1.name lawD.1.scope L f code)).units < cLine) (W : Wb mg mb c P fD H) (N : NmsL mg mb fb ff fc fk aS) (Ff : FnAt filledD.1 H ff) (Fc : FnAt cutD.1 H fc)
    (TV : TabV H c P oP) (S : Sta H (envOfC lawD.1.name lawD.1.scope L f code).locals m ((P, oP) :: rest) s.heap) (neP : ∀ p ∈ rest, p.1 ≠ P)
    (lst : ∀ h : Heap, (∀ p ∈ rest, h.get? p.1 = some p.2) → h.IsCell (L + 1 + 1) (some (.ref Dc)) ∧ h.IsList Dc cv ∧ h.IsCell (L + 1 + 1 + 1) (some (.int room tr)) ∧ h.IsList D wv.toArray ∧ h.IsList Dv zs ∧ ∀ p ∈ tups, h.get? p.1 = some p.2)
    (hb : AllBare s.gens) (mw : m "words" = some (.ref D)) (mv : m "ways" = some (.ref Dv)) (mt : m "told" = some vT) (mm : m "mask" = some (.int (mask : Nat) u)) (mr : m "rows" = some (.int (rows : Nat) z))
    (hwv : StrsAre wv ws) (O : WordsOk ws) (hcs : ws.map cellsOf = cs) (hI : IntsAre cv.toList cs) (hcne : cs ≠ []) (hcl : cs.length ≤ 16) (hc1 : ∀ c ∈ cs, 1 ≤ c ∧ c ≤ 6) (hroom : ∀ c ∈ cs, c ≤ room) (hrb : 0 ≤ room ∧ room ≤ 1000)
    (hw : WayL tups zs.toList (waysOf room cs)) (hzsz : zs.size ≤ sizeLine) (oT : IsI b0 vT) (P1 : ∀ p ∈ waysOf room cs, b0 ≤ p.1) (P2 : cutF room (mask : Nat) cs = some (b0, ((rows : Nat) : Int)) ∧ (b0, (rows : Int)) ∈ waysOf room cs)
    (hQ : ∀ s', (∀ b o, H.get? b = some o → s'.heap.get? b = some o) → AllBare s'.gens → s'.os = s.os → Tab c P s'.heap → Q (.bool true) s') :
    wpAny (model prog w) (A.deeper (envOfC lawD.1.name lawD.1.scope L f code)) (execs (lawD.1.body.drop 11) (envOfC lawD.1.name lawD.1.scope L f code)) (fun fl s' => Q (match fl with | .ret v => v | _ => .none) s') E s := by
  have wne : waysOf room cs ≠ [] := fun e => by rw [e] at P2; cases P2.2
  have rst : ∀ {m h oP}, Sta H (envOfC lawD.1.name lawD.1.scope L f code).locals m ((P, oP) :: rest) h → ∀ p ∈ rest, h.get? p.1 = some p.2 := fun S p hp => S.get (List.mem_cons_of_mem _ hp)
  have hLk : ∀ {m h led}, Sta H (envOfC lawD.1.name lawD.1.scope L f code).locals m led h → ∃ o, h.get? (envOfC lawD.1.name lawD.1.scope L f code).locals = some o := fun S => by
    obtain ⟨oL, _, _, hL, _⟩ := S.fr.ns; exact ⟨oL, hL⟩
  have k : Ext H s.heap := S.fr.keep
  have c2 : (envOfC lawD.1.name lawD.1.scope L f code).cells.lookup ("cells" : Str) = some (L + 1 + 1) := by rfl
  have c3 : (envOfC lawD.1.name lawD.1.scope L f code).cells.lookup ("room" : Str) = some (L + 1 + 1 + 1) := by rfl
  -- the test
  refine wpAny_execs_cons (wpAny_If (wpAny_isTrue_BoolOp (wpAny_allTrue_Or_cons (wpAny_isTrue_Compare1 ((EvP.loc S.fr.ns mt oT : EvP prog w _ _ _ _ _) _ _ s rfl ?_) (by with_unfolding_all rfl)))))
  rintro _ s₁ R₁ e₁ ⟨tt, rfl⟩
  rw [← e₁] at S k
  have L1 := lst _ (rst S)
  refine (EvX.minWays (tups := tups) (wl := waysOf room cs) (j := 0) (k := 0) (fun c _ => c) hh' (EvP.bt (W.gr.keeps k) N.min.1 N.min.2) (EvP.loc S.fr.ns mv rfl) L1.2.2.2.2.1 hw L1.2.2.2.2.2 hzsz wne (by decide) (by decide) (by decide) (fun _ _ _ _ => rfl) (hLk S)) _ _ s₁ rfl ?_
  rintro _ s₂ R₂ E₂ ⟨N1, ⟨tn, rfl⟩, hN1, hN2⟩
  have eN : N1 = b0 := by
    obtain ⟨p, hp, rfl⟩ := List.mem_map.mp hN1
    have h1 := P1 p hp
    have h2 := hN2 b0 (List.mem_map.mpr ⟨_, P2.2, rfl⟩)
    omega
  subst eN
  have S₂ := S.ext E₂
  have k₂ : Ext H s₂.heap := S₂.fr.keep
  refine PyProof.Rows.ne_int (wpAny_truthy_bool ?_)
  rw [show (N1 != N1) = false by simp, if_neg Bool.false_ne_true]
  -- the way found has that price
  have L2 := lst _ (rst S₂)
  obtain ⟨oK, fdK, hoK, hdatK⟩ := (Fc.keeps k₂).obj
  refine wpAny_allTrue_Or_cons (wpAny_isTrue_Compare1 ?_ (by with_unfolding_all rfl))
  refine Call_Name (trees := [(false, _), (false, _), (false, _)]) rfl ((EvP.glob (W.gr.keeps k₂).g N.cut rfl : EvP prog w _ _ s₂.heap (.Name "_law_cut" _) (Is (.ref fc))) _ _ s₂ rfl ?_)
  rintro _ s₃ r₃ e₃ rfl
  refine Calls.callWith_function (o := oK) (fd := fdK) (Calls.evalArgs_plain (Calls.spliced_cons ((EvP.cellVar (P := Is (.ref Dc)) c2 L2.1 rfl : EvP prog w _ _ _ _ _) _ _ s₃ e₃ ?_)))
  rintro _ s₄ r₄ e₄ rfl
  refine Calls.spliced_cons ((EvP.cellVar (P := Is (.int room tr)) c3 L2.2.2.1 rfl : EvP prog w _ _ _ _ _) _ _ s₄ e₄ ?_)
  rintro _ s₅ r₅ e₅ rfl
  refine Calls.spliced_cons ((EvP.loc (P := Is (.int (mask : Nat) u)) S₂.fr.ns mm rfl : EvP prog w _ _ _ _ _) _ _ s₅ e₅ ?_)
  rintro _ s₆ r₆ e₆ rfl
  refine Calls.spliced_nil ⟨⟨by rw [e₆]; exact hoK, hdatK⟩, ?_⟩
  refine cut_spec (mg := mg) (mb := mb) (vs := cv.toList) (cs := cs) hh' (by show A.depth + 1 < recursionLimit; omega) (by rw [e₆]; exact W.gr.keeps k₂) W.nms.range.1 W.nms.len.1 W.nms.range.2 W.nms.len.2 (by rw [e₆]; exact Fc.keeps k₂) (by rw [e₆]; simpa using L2.2.1) hI hcne hcl (fun c hc => by have := hc1 c hc; omega) hrb ?_
  intro y s₇ r₇ e₇ hy _
  rw [e₆] at e₇
  rw [P2.1] at hy
  obtain ⟨a, t1, t2, rfl, hta⟩ := hy
  have S₇ := S₂.ext e₇
  refine (EvX.pair (EvP.loc S₇.fr.ns mt (P := IsI N1) oT) (EvP.loc S₇.fr.ns mr (P := IsI (rows : Nat)) ⟨_, rfl⟩)) _ _ s₇ rfl ?_
  rintro _ s₈ r₈ e₈ ⟨_, _, ⟨t3, rfl⟩, ⟨t4, rfl⟩, rfl, hh8⟩
  refine ne_pair hu (hta.keeps e₈) (by rw [hh8]; exact ⟨_, Heap.get?_push_size _ rfl, rfl, _, rfl⟩) (wpAny_truthy_bool ?_)
  rw [show (!((N1 == N1) && (((rows : Nat) : Int) == ((rows : Nat) : Int)))) = false by simp, if_neg Bool.false_ne_true]
  refine wpAny_allTrue_Or_nil ?_
  rw [if_neg Bool.false_ne_true]
  refine wpAny_execs_nil ?_
  have S₈ := S₇.ext e₈
  have R₈ : Rest s s₈ := R₁.trans' (R₂.trans' (r₃.trans' (r₄.trans' (r₅.trans' (r₆.trans' (r₇.trans' r₈))))))
  have k₈ : Ext H s₈.heap := S₈.fr.keep
  have L8 := lst _ (rst S₈)
  clear S S₂ S₇ R₁ R₂ r₃ r₄ r₅ r₆ r₇ r₈ e₇ e₈ k k₂ L1 L2
  -- the rows that were filled
  obtain ⟨oF, fdF, hoF, hdatF⟩ := Ff.obj
  refine wpAny_execs_cons (wpAny_Return_some (wpAny_Compare1 ?_ (by with_unfolding_all rfl)))
  refine Call_Name2 ((EvP.glob (W.gr.keeps k₈).g N.filled rfl : EvP prog w _ _ s₈.heap (.Name "_law_filled" _) (Is (.ref ff))) _ _ s₈ rfl ?_) rfl
  rintro _ s₉ r₉ e₉ rfl
  refine Calls.callWith_function (o := oF) (fd := fdF) (Calls.evalArgs_plain (Calls.spliced_cons ((EvX.listOf (l := D) (vs := wv) (EvP.bt (W.gr.keeps k₈) N.list.1 N.list.2) (EvP.loc S₈.fr.ns mw rfl) L8.2.2.2.1 (by have := O.few; have := strs_length hwv; rw [sizeLine_eq]; omega)) _ _ s₉ e₉ ?_)))
  rintro _ s₁₀ r₁₀ E₁₀ ⟨D2, rfl, hD2⟩
  have S₁₀ := S₈.ext E₁₀
  refine Calls.spliced_cons ((EvP.cellVar (P := Is (.int room tr)) c3 (lst _ (rst S₁₀)).2.2.1 rfl : EvP prog w _ _ _ _ _) _ _ s₁₀ rfl ?_)
  rintro _ s₁₁ r₁₁ e₁₁ rfl
  have S₁₁ : Sta H (envOfC lawD.1.name lawD.1.scope L f code).locals m ((P, oP) :: rest) s₁₁.heap := e₁₁ ▸ S₁₀
  refine Calls.spliced_nil ⟨⟨S₁₁.old hoF, hdatF⟩, ?_⟩
  have R₁₁ := R₈.trans' (r₉.trans' (r₁₀.trans' r₁₁))
  refine filled_spec (vs := wv) (ws := ws) hh' (by show A.depth + 1 + 2 < recursionLimit; omega) W S₁₁.fr.keep (TV _ S₁₁.fr.keep (S₁₁.get List.mem_cons_self)) (by rw [R₁₁.gens]; exact hb) Ff (by rw [e₁₁]; exact hD2) hwv O ?_
  intro s₁₂ v r keep₁₂ hb₁₂ ho₁₂ T₁₂ hv hF
  obtain ⟨tv, rfl⟩ := hv
  rw [hcs, show ws.length = cs.length by rw [← hcs]; simp] at hF
  obtain ⟨oP₂, TV₂, S₁₂⟩ := S₁₁.after W.oc keep₁₂ T₁₂ neP
  have L12 := lst _ (rst S₁₂)
  have P3 := filled_least (fun c hc => (hc1 c hc).1) hroom hcne hF
  refine (EvX.minWays (tups := tups) (wl := waysOf room cs) (j := 1) (k := 1) (fun _ r => r) hh' (EvP.bt (W.gr.keeps S₁₂.fr.keep) N.min.1 N.min.2) (EvP.loc S₁₂.fr.ns mv rfl) L12.2.2.2.2.1 hw L12.2.2.2.2.2 hzsz wne (by decide) (by decide) (by decide) (fun _ _ _ _ => rfl) (hLk S₁₂)) _ _ s₁₂ rfl ?_
  rintro _ s₁₃ R₁₃ E₁₃ ⟨N2, ⟨tn2, rfl⟩, hM1, hM2⟩
  have eN2 : N2 = r := by
    obtain ⟨p, hp, rfl⟩ := List.mem_map.mp hM1
    have h1 := P3.1 p hp
    obtain ⟨c, hc⟩ := P3.2
    have h2 := hM2 r (List.mem_map.mpr ⟨_, hc, rfl⟩)
    omega
  subst eN2
  refine PyProof.Rows.eq_int ?_
  rw [show (((r : Nat) : Int) == ((r : Nat) : Int)) = true by simp]
  exact hQ s₁₃ (fun b o e => E₁₃ _ _ (S₁₂.old e)) (by rw [R₁₃.gens]; exact hb₁₂) (R₁₃.os.trans (ho₁₂.trans R₁₁.os)) (TV₂ _ (fun b o e => E₁₃ _ _ (S₁₂.old e)) (E₁₃ _ _ (S₁₂.get List.mem_cons_self)))
end Mine
namespace Mine
local macro_rules | `(tactic| walk_at "look") => `(tactic| first | assumption | exact upd_same _ _ _ | (refine (upd_other (by decide)).trans ?_; walk_at "look") | with_unfolding_all rfl)
theorem law_part1 {prog : Program} {w : World} {A : Around} {s : Shared} {mg mb : Str → Option Value} {h₁ : Heap} {c P fD f l : Addr} {fb ff fc fk aS : Addr} {vs sv : List Value} {ns : List Int} {Q : Value → Shared → Prop}
    (hh : A.handled = none) (hd : A.depth + 3 < recursionLimit) (hu : ∀ env, (A.deeper env).units < cLine) (W₁ : Wb mg mb c P fD h₁) (N : NmsL mg mb fb ff fc fk aS) (k₁ : Ext h₁ s.heap) (T : Tab c P s.heap) (hb : AllBare s.gens)
    (hsg : IsTup h₁ aS sv.toArray) (hsv : StrsAre sv (signs.map fun k => (⟨#[k]⟩ : Str)))
    (Fb : FnAt bestD.1 h₁ fb) (Ff : FnAt filledD.1 h₁ ff) (Fc : FnAt cutD.1 h₁ fc) (Fk : FnAt cellsD.1 h₁ fk) (hf : FnAt lawD.1 s.heap f)
    (hl : s.heap.IsList l vs.toArray) (hi : IntsAre vs ns) (hn : ns.length ≤ 63)
    (hQ : ∀ s', (∀ b o, b ≠ P → s.heap.get? b = some o → s'.heap.get? b = some o) → AllBare s'.gens → s'.os = s.os → Tab c P s'.heap → Q (.bool true) s') :
    codeAny (model prog w) A (.call (.ref f) ⟨[.ref l], []⟩) (fun r s' => match r with | .ok (.ret v) => Q v s' | _ => False) s := by
  obtain ⟨oP, hoP, hoc⟩ := T.obj
  have W := W₁.holed (P := P) k₁
  have hlP : l ≠ P := by
    rintro rfl
    obtain ⟨o, e, e2, _⟩ := hl
    rw [hoP] at e; cases e; rw [hoc] at e2; cases e2
  have hl' : (hole s.heap P).IsList l vs.toArray := by
    obtain ⟨o, e, r⟩ := hl; exact ⟨o, (hole_other hlP).trans e, r⟩
  have TV : TabV (hole s.heap P) c P oP := TabV.of T (hole_ext _ _) hoP W.oc
  have kh : Ext h₁ (hole s.heap P) := k₁.hole W₁.hole
  have hole₀ : ∀ b, b ≠ P → (hole s.heap P).get? b = s.heap.get? b := fun b hb => hole_other hb
  obtain ⟨oF, pm, code, doc, hoF, hdatF, hcdF⟩ := hf
  refine call_cellsN_ret (binds := [("script", .ref l)]) (by omega) hoF hdatF (W₁.gr.keeps k₁).nolimit hcdF rfl (by intro x hx; rw [List.mem_singleton.mp hx]; exact .inl rfl) (by decide) ?_
  intro hh₁ tk cells F N₀ Y
  obtain ⟨o3, o2, o1, rfl, ho3, ho2, ho1⟩ := CellsAre.three Y
  have S : Sta s.heap s.heap.objs.size _ _ hh₁ := ⟨F, N₀⟩
  have S := S.hole hoP
  have R₀ : Rest s { s with heap := hh₁, toks := tk } := ⟨rfl, rfl, rfl⟩
  have hP1 : ∀ k : Nat, P ≠ s.heap.objs.size + k := fun k => Nat.ne_of_lt (Nat.lt_of_lt_of_le (Heap.lt_size hoP) (Nat.le_add_right _ _))
  have S : Sta (hole s.heap P) (envOfC lawD.1.name lawD.1.scope s.heap.objs.size f code).locals _ _ ({ s with heap := hh₁, toks := tk } : Shared).heap := S
  generalize ({ s with heap := hh₁, toks := tk } : Shared) = s₀ at S R₀ ⊢
  have Kh : Ext (hole s.heap P) s.heap := hole_ext _ _
  generalize hH : hole s.heap P = H at *
  clear F N₀ Y
  have c1 : (envOfC lawD.1.name lawD.1.scope s.heap.objs.size f code).cells.lookup ("x" : Str) = some (s.heap.objs.size + 1) := by rfl
  have c2 : (envOfC lawD.1.name lawD.1.scope s.heap.objs.size f code).cells.lookup ("cells" : Str) = some (s.heap.objs.size + 1 + 1) := by rfl
  have c3 : (envOfC lawD.1.name lawD.1.scope s.heap.objs.size f code).cells.lookup ("room" : Str) = some (s.heap.objs.size + 1 + 1 + 1) := by rfl
  have ho1 : CObj _ o1 := ho1
  have ho2 : CObj _ o2 := ho2
  have ho3 : CObj _ o3 := ho3
  have hh' : (A.deeper (envOfC lawD.1.name lawD.1.scope s.heap.objs.size f code)).handled = none := hh
  -- words = []
  refine wpAny_execs_cons (assignNil S ?_)
  intro D s₁ R₁ S₁ hD
  have R₁ := R₀.trans' R₁
  have hDP : D ≠ P := fun e => hD (P, oP) List.mem_cons_self e.symm
  have hD1 : ∀ k : Nat, k ≤ 3 → 1 ≤ k → D ≠ s.heap.objs.size + k := by
    intro k h1 h2 e
    match k, h1, h2 with
    | 1, _, _ => exact hD (s.heap.objs.size + 1, o1) (by simp) e.symm
    | 2, _, _ => exact hD (s.heap.objs.size + 1 + 1, o2) (by simp) e.symm
    | 3, _, _ => exact hD (s.heap.objs.size + 1 + 1 + 1, o3) (by simp) e.symm
  have hlen := wordsOf_length ns
  have hlenN : ((ns ++ [9, 40, 7]).take 7).length = (wordsOf ns).length := by unfold wordsOf; simp
  have hpre0 : ∀ (o : Obj) (oP : Obj), ∀ p ∈ [(D, o), (P, oP), (s.heap.objs.size + 1 + 1 + 1, o3), (s.heap.objs.size + 1 + 1, o2)], p.1 ≠ s.heap.objs.size + 1 := by
    intro o oP p hp
    simp only [List.mem_cons, List.not_mem_nil, or_false] at hp
    rcases hp with rfl | rfl | rfl | rfl
    · exact hD1 1 (by omega) (by omega)
    · exact hP1 1
    · exact Nat.ne_of_gt (Nat.lt_succ_of_lt (Nat.lt_succ_self _))
    · exact Nat.ne_of_gt (Nat.lt_succ_self _)
  -- the words
  refine wpAny_execs_cons (forListC (N := (wordsOf ns).length) (c := s.heap.objs.size + 1) (o := o1) (post := []) (pre := [(D, { cls := .type "list", data := .seq ([] : List Value).toArray 0 }), (P, oP), (s.heap.objs.size + 1 + 1 + 1, o3), (s.heap.objs.size + 1 + 1, o2)]) S₁ hh (R := fun ws => IntsAre ws ((ns ++ [9, 40, 7]).take 7)) ?_ ?_
    (fun xs i m' pre' o' post' => m' "words" = some (.ref D) ∧ m' "script" = some (.ref l) ∧ post' = [] ∧ (∃ v₀, CObj v₀ o') ∧ ∃ wv nW, pre' = [(D, { cls := .type "list", data := .seq (List.toArray wv) nW }), (P, oP), (s.heap.objs.size + 1 + 1 + 1, o3), (s.heap.objs.size + 1 + 1, o2)] ∧ StrsAre wv ((wordsOf ns).take i))
    ?_ ?_ c1 ?_ ?_ (fun s' => Rest s s') (fun _ _ r h => h.trans' r) R₁ ?_ ?_)
  · refine (EvL.upto (j := 7) (z := 7) (EvL.add (EvL.listOf (fun news h Sh => EvP.bt (W.gr.keeps Sh.fr.keep) N.list.1 N.list.2) (fun news h Sh => EvP.loc Sh.fr.ns (by walk_at "look") rfl) (fun h' k => hl'.at (k l)) (by rw [hi.length, sizeLine_eq]; omega))
      (EvL.lit3 (fun _ => EvP.lit (i := 9)) (fun _ => EvP.lit (i := 40)) (fun _ => EvP.lit (i := 7))) ?_ ?_) (fun _ => EvP.lit (i := 7)) rfl ?_).mono ?_
    · rintro a rfl; rw [hi.length]; omega
    · rintro a ⟨_, _, _, rfl, _⟩; simp
    · rintro a ⟨_, _, rfl, ⟨_, _, _, rfl, _⟩, rfl⟩
      rw [sizeLine_eq]; simp [hi.length]; omega
    · rintro a ⟨_, ⟨_, _, rfl, ⟨_, _, _, rfl, ⟨t1, rfl⟩, ⟨t2, rfl⟩, ⟨t3, rfl⟩⟩, rfl⟩, rfl⟩
      exact (hi.append (.cons 9 t1 (.cons 40 t2 (.cons 7 t3 .nil)))).take 7
  · intro xs hxs; rw [hxs.length, hlenN]
  · intro xs hxs
    exact ⟨by walk_at "look", by walk_at "look", rfl, ⟨_, ho1⟩, [], 0, rfl, by simpa using StrsAre.nil⟩
  · rintro xs i m' pre' o' post' ⟨_, _, rfl, hc, wv, nW, rfl, _⟩
    exact ⟨rfl, rfl, hc⟩
  · intro a ha
    obtain ⟨p, hp, rfl⟩ := List.mem_map.mp ha
    exact hpre0 _ _ p hp
  · intro a ha; cases ha
  · -- a turn
    rintro xs i v m' pre' o₀ o' post' own s' E' hxs hiN hv ⟨mw, ms, rfl, _, wv, nW, rfl, hwv⟩ hox R' hoff S'
    obtain ⟨x, hx⟩ : ∃ x, ((ns ++ [9, 40, 7]).take 7)[i]? = some x := ⟨_, List.getElem?_eq_getElem (by rw [hlenN]; exact hiN)⟩
    obtain ⟨tx, hvx⟩ := hxs.get i x hx
    rw [hv] at hvx; cases hvx
    have hwi : (wordsOf ns)[i]? = some (wordOf x) := by unfold wordsOf; rw [List.getElem?_map, hx]; rfl
    have S' : Sta H (envOfC lawD.1.name lawD.1.scope s.heap.objs.size f code).locals m' ([(D, { cls := .type "list", data := .seq (List.toArray wv) nW }), (P, oP), (s.heap.objs.size + 1 + 1 + 1, o3), (s.heap.objs.size + 1 + 1, o2)] ++ (s.heap.objs.size + 1, o') :: own) s'.heap := S'
    have hox' : s'.heap.IsCell (s.heap.objs.size + 1) (some (.int x tx)) := ⟨o', S'.get (by simp), hox⟩
    refine wpAny_execs_cons (assignC S' (EvX.abs (EvP.bt (W.gr.keeps S'.fr.keep) N.abs.1 N.abs.2) (EvP.cellVar c1 hox' (P := IsI x) ⟨tx, rfl⟩).x (fun _ _ h => h.1)) c1 hox ?_ ?_ ?_)
    · exact hpre0 _ _
    · intro p hp
      exact hoff p hp (s.heap.objs.size + 1, o') (by simp)
    intro v h₂ o₂ s₂ R₂ hv₂ ho₂ _ _ S₂
    obtain ⟨t₂, rfl⟩ := hv₂
    have hox₂ : ∀ h, Ext s₂.heap h → h.IsCell (s.heap.objs.size + 1) (some (.int (x.natAbs : Nat) t₂)) := fun h k => ⟨o₂, k _ _ (S₂.get (by simp)), ho₂⟩
    have hL₂ : ∃ o, s₂.heap.get? (envOfC lawD.1.name lawD.1.scope s.heap.objs.size f code).locals = some o := by obtain ⟨oL, _, _, hL, _⟩ := S₂.fr.ns; exact ⟨oL, hL⟩
    refine wpAny_execs_cons (append_ (pre := []) (post := (P, oP) :: (s.heap.objs.size + 1 + 1 + 1, o3) :: (s.heap.objs.size + 1 + 1, o2) :: (s.heap.objs.size + 1, o₂) :: own) (c := D) (n := nW) (vs := wv) S₂ rfl (EvP.loc S₂.fr.ns (by walk_at "look") rfl)
      (EvX.join (ys := (List.range (1 + x.natAbs % 3)).map fun k => sgn (x.natAbs / 3 / 6 ^ k % 6)) EvP.str (EvX.comp (n := 1 + x.natAbs % 3) (P := fun i v => i < 1 + x.natAbs % 3 ∧ ∃ t, v = .int (0 + (i : Int) * 1) t) (fun _ => true) (fun v y _ => ∃ t, y = .str (sgn (x.natAbs / 3 / 6 ^ (intOf v).toNat % 6)) t)
        (Src.bound (Src.range hh ?_)) ?_ hL₂ ⟨?_, ?_⟩) ?_ ?_) ?_ ?_ ?_ ?_)
    · refine (EvX.range1 (b := 1 + (x.natAbs % 3 : Nat)) (EvP.bt (W.gr.keeps S₂.fr.keep) W.nms.range.1 W.nms.range.2) (EvP.add (EvP.lit (i := 1)) ((EvP.fmod (EvP.cellVar c1 (hox₂ _ Ext.rfl') ⟨t₂, rfl⟩) (EvP.lit (i := 3)) (by decide)).mono fun v hv => ?_))).mono ?_
      · rw [Int.fmod_eq_emod_of_nonneg _ (by omega)] at hv
        have e : ((x.natAbs : Nat) : Int) % 3 = ((x.natAbs % 3 : Nat) : Int) := by push_cast; rfl
        rw [e] at hv; exact hv
      · rintro v h' _ ⟨r, t, u, z, rfl, hR⟩
        refine ⟨r, _, t, u, z, rfl, hR, small_one (by omega) (by omega) (by omega) (by omega), ?_⟩
        rw [rangeSize_one, if_pos (by omega)]; push_cast; omega
    · rw [sizeLine_eq]; omega
    · intro C i v s m E _ _ _ _
      exact wpAny_tests_nil ⟨rfl, .rfl', .rfl'⟩
    · rintro X C k v s₃ m E ⟨hk, tk, rfl⟩ _ hn hv hE _
      have k₃ : Ext H s₃.heap := fun b o e => hE _ _ (S₂.old e)
      have e0 : (0 + (k : Int) * 1) = k := by omega
      rw [e0] at hv ⊢
      have h6 : x.natAbs / 3 / 6 ^ k % 6 < 6 := Nat.mod_lt _ (by omega)
      obtain ⟨tsg, hsgv, hs6⟩ := sign_at hsv h6
      refine ((EvP.titem (l := aS) (items := sv) (k := ((x.natAbs / 3 / 6 ^ k % 6 : Nat) : Int)) (j := x.natAbs / 3 / 6 ^ k % 6) (P := fun y => ∃ t, y = .str (sgn (x.natAbs / 3 / 6 ^ k % 6)) t) (EvP.glob (W.gr.keeps k₃).g N.signs rfl)
        ((EvP.fmod (EvP.fdiv (EvP.fdiv (EvP.cellVar (c := s.heap.objs.size + 1) (by rfl) (hox₂ _ hE) ⟨t₂, rfl⟩) (EvP.lit (i := 3)) (by decide) (by decide)) (EvP.pow (EvP.lit (i := 6)) (EvP.loc hn hv ⟨tk, rfl⟩) (by omega) (by omega) (by decide)) ?_ ?_) (EvP.lit (i := 6)) (by decide)).mono fun v hv => ?_) ((hsg.keeps kh).keeps k₃) (by omega) (by omega) (idx_ok (by rw [hs6]; exact h6)) hsgv ⟨tsg, rfl⟩) : EvP prog w _ _ _ _ _) _ _ s₃ rfl ?_
      · rw [Int.toNat_natCast]; exact six_ne k
      · rw [Int.toNat_natCast]; exact six_small (by omega)
      · rw [Int.toNat_natCast, sign_idx] at hv; exact hv
      · rintro y s₄ r₄ e₄ ⟨t, rfl⟩
        refine ⟨r₄, by rw [e₄]; exact Ext.rfl', fun _ _ => ⟨t, ?_⟩⟩
        simp [intOf]
    · rintro v h' ⟨Dn, ys, vs', rfl, _, hpl, hlen', hP', hF⟩
      rw [List.filter_eq_self.mpr (by intro _ _; rfl)] at hF
      refine ⟨Dn, ys, rfl, hpl.isList, ?_⟩
      have h1 := paired_strs (F := fun v => sgn (x.natAbs / 3 / 6 ^ (intOf v).toNat % 6)) hF
      have h2 := range_vals (n := 1 + x.natAbs % 3) hlen' (fun j v hv => (hP' j v hv).2) (fun i => sgn (x.natAbs / 3 / 6 ^ i.toNat % 6))
      rw [h2] at h1
      simpa using h1
    · have h1 : ∀ y ∈ (List.range (1 + x.natAbs % 3)).map (fun k => sgn (x.natAbs / 3 / 6 ^ k % 6)), y.length ≤ 1 := by
        intro y hy; obtain ⟨k, _, rfl⟩ := List.mem_map.mp hy; exact Nat.le_refl 1
      have h2 := StrLaws.sumLen_le (B := 1) _ h1
      have h3 : ((List.range (1 + x.natAbs % 3)).map (fun k => sgn (x.natAbs / 3 / 6 ^ k % 6))).length ≤ 3 := by simp; omega
      have h4 : ("" : Str).length = 0 := by decide
      rw [h4]; omega
    · intro p hp; cases hp
    · intro p hp
      rcases List.mem_cons.mp hp with rfl | hp
      · exact Ne.symm hDP
      rcases List.mem_cons.mp hp with rfl | hp
      · exact Ne.symm (hD1 3 (by omega) (by omega))
      rcases List.mem_cons.mp hp with rfl | hp
      · exact Ne.symm (hD1 2 (by omega) (by omega))
      rcases List.mem_cons.mp hp with rfl | hp
      · exact Ne.symm (hD1 1 (by omega) (by omega))
      · exact hoff p hp (D, _) List.mem_cons_self
    · have := strs_length hwv
      rw [this]; simp; omega
    · intro v h₄ n' s₄ R₄ hv₄ S₄
      obtain ⟨t₄, rfl⟩ := hv₄
      refine wpAny_execs_nil ?_
      refine ⟨m', [(D, { cls := .type "list", data := .seq (wv ++ [Value.str (wordOf x) t₄]).toArray n' }), (P, oP), (s.heap.objs.size + 1 + 1 + 1, o3), (s.heap.objs.size + 1 + 1, o2)], o₂, [], ⟨mw, ms, rfl, ⟨_, ho₂⟩, wv ++ [Value.str (wordOf x) t₄], n', rfl, ?_⟩, R'.trans' (R₂.trans' R₄), S₄⟩
      have e : (wordsOf ns).take (i + 1) = (wordsOf ns).take i ++ [wordOf x] := by rw [List.take_add_one, hwi]; rfl
      rw [e]
      exact strs_append hwv (.cons _ t₄ .nil)
  -- after the words
  rintro xs m' pre' o' post' s₂ hxs ⟨mw, ms, rfl, ⟨v1, ho'⟩, wv, nW, rfl, hwv⟩ R₂ S₂
  rw [List.take_of_length_le (Nat.le_refl _)] at hwv
  have O := words_ok ns
  have hwc := word_cells ns
  generalize hws : wordsOf ns = ws at *
  have hwl := strs_length hwv
  generalize hcs : ws.map cellsOf = cs at *
  have hcl : cs.length = ws.length := by rw [← hcs]; simp
  clear S₁ S ho1
  -- cells
  have S₂ : Sta H (envOfC lawD.1.name lawD.1.scope s.heap.objs.size f code).locals m' ([(D, { cls := .type "list", data := .seq (List.toArray wv) nW }), (P, oP), (s.heap.objs.size + 1 + 1 + 1, o3)] ++ (s.heap.objs.size + 1 + 1, o2) :: [(s.heap.objs.size + 1, o')]) s₂.heap := S₂
  have isW : ∀ h, Ext s₂.heap h → h.IsList D wv.toArray := fun h k => ⟨_, k _ _ (S₂.get (a := D) List.mem_cons_self), rfl, nW, rfl⟩
  have hL₂ : ∃ o, s₂.heap.get? (envOfC lawD.1.name lawD.1.scope s.heap.objs.size f code).locals = some o := by obtain ⟨oL, _, _, hL, _⟩ := S₂.fr.ns; exact ⟨oL, hL⟩
  refine wpAny_execs_cons (assignC S₂ (EvX.comp (n := wv.toArray.size) (P := fun i v => wv.toArray[i]? = some v) (fun _ => true) (fun v z _ => ∃ t, z = .int (cellsV v) t) (Src.list hh (EvP.loc S₂.fr.ns (by walk_at "look") rfl) (isW _ Ext.rfl')) ?_ hL₂ ⟨?_, ?_⟩) c2 ho2 ?_ ?_ ?_)
  rotate_left 3
  · intro p hp
    simp only [List.mem_cons, List.not_mem_nil, or_false] at hp
    rcases hp with rfl | rfl | rfl
    · exact hD1 2 (by omega) (by omega)
    · exact hP1 2
    · exact Nat.ne_of_gt (Nat.lt_succ_self _)
  · intro p hp
    rw [List.mem_singleton.mp hp]; exact Nat.ne_of_lt (Nat.lt_succ_self _)
  rotate_left 1
  · rw [List.size_toArray, sizeLine_eq]; omega
  · intro C i v s m E _ _ _ _
    exact wpAny_tests_nil ⟨rfl, .rfl', .rfl'⟩
  · rintro X C i v s₃ m E hPv _ hn hv hE _
    have k₃ : Ext H s₃.heap := fun b o e => hE _ _ (S₂.old e)
    obtain ⟨y, t, hy, rfl⟩ : ∃ y t, y ∈ ws ∧ v = .str y t := by
      have hPv : wv[i]? = some v := by simpa using hPv
      have key : ∀ {vs : List Value} {ys : List Str}, StrsAre vs ys → v ∈ vs → ∃ y t, y ∈ ys ∧ v = Value.str y t := by
        intro vs ys h
        induction h with
        | nil => intro hm; cases hm
        | cons y t r ih =>
          intro hm
          rcases List.mem_cons.mp hm with rfl | hm
          · exact ⟨y, t, List.mem_cons_self, rfl⟩
          · obtain ⟨y', t', h1, h2⟩ := ih hm
            exact ⟨y', t', List.mem_cons_of_mem _ h1, h2⟩
      exact key hwv (List.mem_of_getElem? hPv)
    obtain ⟨oK, fdK, hoK, hdatK⟩ := ((Fk.keeps kh).keeps k₃).obj
    refine Call_name1 rfl ((EvP.glob (W.gr.keeps k₃).g N.cells rfl : EvP prog w _ _ s₃.heap (.Name "_law_cells" _) (Is (.ref fk))) _ _ s₃ rfl ?_)
    rintro _ s₄ r₄ e₄ rfl
    refine Calls.callWith_function (o := oK) (fd := fdK) (Calls.evalArgs_plain (Calls.spliced_cons ((EvP.loc (h := s₄.heap) (P := Is (.str y t)) (e₄ ▸ hn) hv rfl : EvP prog w _ _ _ _ _) _ _ s₄ rfl ?_)))
    rintro _ s₅ r₅ e₅ rfl
    refine Calls.spliced_nil ⟨⟨by rw [e₅, e₄]; exact hoK, hdatK⟩, ?_⟩
    refine cells_spec (mg := mg) (mb := mb) hh (by show A.depth + 1 < recursionLimit; omega) (by rw [e₅, e₄]; exact W.gr.keeps k₃) W.nms.sum.1 W.nms.sum.2 (by rw [e₅, e₄]; exact (Fk.keeps kh).keeps k₃) (by have := O.size y hy; unfold Str.length at this; rw [sizeLine_eq]; omega) ?_
    rintro v s₆ r₆ e₆ ⟨t', rfl⟩
    exact ⟨r₄.trans' (r₅.trans' r₆), fun b o e => e₆ _ _ (by rw [e₅, e₄]; exact e), fun _ _ => ⟨t', rfl⟩⟩
  rintro v h₃ o2' s₃ R₃ ⟨Dc, cv, vs', rfl, hDc, ⟨nC, hpl⟩, hlen', hPv, hF⟩ ho2' E₃ sb₃ S₃
  rw [List.filter_eq_self.mpr (by intro _ _; rfl)] at hF
  have hI := paired_ints (f := cellsV) hF
  rw [same_items hlen' hPv, strs_cells hwv, hcs] at hI
  have hDc2 : Dc ≠ s.heap.objs.size + 1 + 1 := fun e => by
    have := (S₂.nw (s.heap.objs.size + 1 + 1, o2) (by simp)).1
    rw [← e, hDc] at this; cases this
  have neDc : ∀ q o, s₂.heap.get? q = some o → q ≠ Dc := fun q o h e => by rw [e, hDc] at h; cases h
  have S₃ := S₃.new (a := Dc) (o := { cls := .type "list", data := .seq cv nC }) ((sb₃.2 _ hDc2).trans hpl) (fun e => by
    obtain ⟨oL, _, _, hL, _⟩ := S₂.fr.ns; rw [← e, hDc] at hL; cases hL) (by
    cases e : H.get? Dc with
    | none => rfl
    | some o => have := S₂.old e; rw [hDc] at this; cases this)
  have hne2 : ∀ p ∈ [(D, ({ cls := .type "list", data := .seq (List.toArray wv) nW } : Obj)), (P, oP), (s.heap.objs.size + 1 + 1 + 1, o3), (s.heap.objs.size + 1 + 1, o2), (s.heap.objs.size + 1, o')], p.1 ≠ Dc := fun p hp => neDc p.1 p.2 (S₂.get hp)
  have eD : D ≠ Dc := hne2 _ List.mem_cons_self
  have eP : P ≠ Dc := hne2 (P, oP) (by simp)
  have e3 : s.heap.objs.size + 1 + 1 + 1 ≠ Dc := hne2 (_, o3) (by simp)
  have e2 : s.heap.objs.size + 1 + 1 ≠ Dc := hne2 (_, o2) (by simp)
  have e1 : s.heap.objs.size + 1 ≠ Dc := hne2 (_, o') (by simp)
  have R₃ := R₂.trans' R₃
  clear S₂ R₂ hF hPv hlen' hpl sb₃ E₃ hL₂ isW
  -- room
  have S₃ : Sta H (envOfC lawD.1.name lawD.1.scope s.heap.objs.size f code).locals m' ([(Dc, { cls := .type "list", data := .seq cv nC }), (D, { cls := .type "list", data := .seq (List.toArray wv) nW }), (P, oP)] ++ (s.heap.objs.size + 1 + 1 + 1, o3) :: [(s.heap.objs.size + 1 + 1, o2'), (s.heap.objs.size + 1, o')]) s₃.heap := S₃
  have isC : ∀ h, Ext s₃.heap h → h.IsCell (s.heap.objs.size + 1 + 1) (some (.ref Dc)) ∧ h.IsList Dc cv := fun h k => ⟨⟨o2', k _ _ (S₃.get (by simp)), ho2'⟩, ⟨_, k _ _ (S₃.get (a := Dc) List.mem_cons_self), rfl, nC, rfl⟩⟩
  have hcne : cs ≠ [] := by intro e; rw [e] at hcl; simp at hcl; omega
  have k₃ : Ext H s₃.heap := S₃.fr.keep
  refine wpAny_execs_cons (assignC S₃ (EvX.max2 (P₁ := fun a => a ∈ cs ∧ ∀ c ∈ cs, c ≤ a) (P₂ := fun b => 4 ≤ b ∧ b ≤ 15) hh' (EvP.bt (W.gr.keeps k₃) N.max.1 N.max.2)
    ((EvX.maxList (ns := cs) hh' (EvP.bt (W.gr.keeps k₃) N.max.1 N.max.2) (EvP.cellVar (P := Is (.ref Dc)) c2 (isC _ Ext.rfl').1 rfl).x ?_ hcne).mono ?_) ?_) c3 ho3 ?_ ?_ ?_)
  · rintro v h' ⟨rfl, rfl⟩
    exact ⟨Dc, cv.toList, rfl, by simpa using (isC _ Ext.rfl').2, hI⟩
  · rintro v h' _ ⟨N, h1, h2, h3⟩
    exact ⟨N, h1, h2, h3⟩
  · intro h' k'
    have k₄ : Ext H h' := k₃.trans' k'
    refine (EvX.binX (a := 4) (b := (ns.sum.natAbs : Int).fmod 12) (EvP.lit (i := 4)).x (fun _ _ h => h.1) (fun h₅ k₅ => EvX.binX (R' := fun v _ => IsI 12 v) (a := (ns.sum.natAbs : Nat)) (b := 12)
      (EvX.abs (a := ns.sum) (EvP.bt (W.gr.keeps (k₄.trans' k₅)) N.abs.1 N.abs.2) (EvX.sum (N := ns.sum) hh' (EvP.bt (W.gr.keeps (k₄.trans' k₅)) W.nms.sum.1 W.nms.sum.2) (EvP.loc (P := Is (.ref l)) ((S₃.fr.ns.keeps k').keeps k₅) (by walk_at "look") rfl).x ?_) (fun _ _ h => h))
      (fun _ _ h => h) (fun _ _ => (EvP.lit (i := 12)).x.mono fun _ _ _ h => h.1) (fun _ _ h => h) (fun _ _ _ _ _ hQ => PyProof.Rows.mod_int' (by decide) (hQ _ _ ⟨rfl, rfl, rfl⟩ rfl ⟨_, rfl⟩))) (fun _ _ h => h) (fun _ _ _ _ _ hQ => PyProof.Rows.add_int (hQ _ _ ⟨rfl, rfl, rfl⟩ rfl ⟨_, rfl⟩))).mono ?_
    · rintro v h'' ⟨rfl, rfl⟩
      exact ⟨l, vs, ns, rfl, hl'.at ((k₄.trans' k₅) l), hi, rfl⟩
    · rintro v h'' _ hv
      refine ⟨_, hv, ?_⟩
      rw [Int.fmod_eq_emod_of_nonneg _ (by omega)]
      omega
  · intro p hp
    simp only [List.mem_cons, List.not_mem_nil, or_false] at hp
    rcases hp with rfl | rfl | rfl
    · exact Ne.symm e3
    · exact hD1 3 (by omega) (by omega)
    · exact hP1 3
  · intro p hp
    simp only [List.mem_cons, List.not_mem_nil, or_false] at hp
    rcases hp with rfl | rfl
    · exact Nat.ne_of_lt (Nat.lt_succ_self _)
    · exact Nat.ne_of_lt (Nat.lt_succ_of_lt (Nat.lt_succ_self _))
  rintro v h₄ o3' s₄ R₄ ⟨a, b, ⟨ha1, ha2⟩, hb2, ⟨tr, rfl⟩⟩ ho3' _ _ S₄
  have hroom : ∀ c ∈ cs, c ≤ max a b := fun c hc => Int.le_trans (ha2 c hc) (Int.le_max_left a b)
  have hrb : 0 ≤ max a b ∧ max a b ≤ 1000 := by
    have := hwc a ha1
    constructor
    · exact Int.le_trans (by omega) (Int.le_max_left a b)
    · exact Int.max_le.mpr ⟨by omega, by omega⟩
  generalize max a b = room at *
  have R₄ := R₃.trans' R₄
  clear S₃ R₃ isC k₃
  -- ways
  have S₄ : Sta H (envOfC lawD.1.name lawD.1.scope s.heap.objs.size f code).locals m' [(Dc, { cls := .type "list", data := .seq cv nC }), (D, { cls := .type "list", data := .seq (List.toArray wv) nW }), (P, oP), (s.heap.objs.size + 1 + 1 + 1, o3'), (s.heap.objs.size + 1 + 1, o2'), (s.heap.objs.size + 1, o')] s₄.heap := S₄
  have isA : ∀ h, Ext s₄.heap h → h.IsCell (s.heap.objs.size + 1 + 1) (some (.ref Dc)) ∧ h.IsList Dc cv ∧ h.IsCell (s.heap.objs.size + 1 + 1 + 1) (some (.int room tr)) ∧ h.IsList D wv.toArray := fun h k =>
    ⟨⟨o2', k _ _ (S₄.get (by simp)), ho2'⟩, ⟨_, k _ _ (S₄.get (a := Dc) List.mem_cons_self), rfl, nC, rfl⟩, ⟨o3', k _ _ (S₄.get (by simp)), ho3'⟩, ⟨_, k _ _ (S₄.get (a := D) (List.mem_cons_of_mem _ List.mem_cons_self)), rfl, nW, rfl⟩⟩
  have k₄ : Ext H s₄.heap := S₄.fr.keep
  have cbnd : ∀ c ∈ cs, 0 ≤ c ∧ c ≤ 900 := fun c hc => by have := hwc c hc; omega
  obtain ⟨M, hM⟩ : ∃ M : Nat, M = 2 ^ (cs.length - 1) := ⟨_, rfl⟩
  have M0 : 0 < M := hM ▸ Nat.two_pow_pos _
  have nbig : M ≤ 64 := hM ▸ Nat.le_trans (Nat.pow_le_pow_right (by decide) (show cs.length - 1 ≤ 6 by omega)) (by decide)
  have lenW : ∀ h, Ext s₄.heap h → ∀ p1 p2 p3 m, h.Ns (envOfC lawD.1.name lawD.1.scope s.heap.objs.size f code).locals m → m "words" = some (.ref D) → EvP prog w (A.deeper (envOfC lawD.1.name lawD.1.scope s.heap.objs.size f code)) (envOfC lawD.1.name lawD.1.scope s.heap.objs.size f code) h (.Call (.Name "len" p1) [.Name "words" p2] [] p3) (IsI (cs.length : Nat)) :=
    fun h k p1 p2 p3 m hm mw => (EvP.len (EvP.bt (W.gr.keeps (k₄.trans' k)) W.nms.len.1 W.nms.len.2) (EvP.loc hm mw rfl) (isA h k).2.2.2 (by rw [List.size_toArray]; omega)).mono fun v hv => by rw [List.size_toArray, hwl, ← hcl] at hv; exact hv
  refine wpAny_execs_cons (assignComp (n := M) (P := fun i v => i < M ∧ ∃ t, v = .int (0 + (i : Int) * 1) t) S₄ (fun _ => true) (fun v y h' => CutVal h' y (cutF room (intOf v) cs) ∧ ∀ a, y = .ref a → s₄.heap.get? a = none)
    (Src.bound (Src.range hh' ?_)) ?_ ⟨?_, ?_⟩ ?_)
  · refine (EvX.range1 (b := (M : Int)) (EvP.bt (W.gr.keeps k₄) W.nms.range.1 W.nms.range.2) ((EvP.pow (EvP.lit (i := 2)) (EvP.sub (lenW _ Ext.rfl' _ _ _ _ S₄.fr.ns mw) (EvP.lit (i := 1))) (by omega) (by omega) (by decide)).mono fun v hv => ?_)).mono ?_
    · have e : ((cs.length : Int) - 1).toNat = cs.length - 1 := by omega
      rw [e] at hv; rw [hM]; push_cast; exact hv
    · rintro v h' _ ⟨r, t, u, z, rfl, hR⟩
      refine ⟨r, _, t, u, z, rfl, hR, small_one (by omega) (by omega) (by omega) (by omega), ?_⟩
      rw [rangeSize_one, if_pos (by omega)]; omega
  · rw [sizeLine_eq]; omega
  · intro C i v s m E _ _ _ _
    exact wpAny_tests_nil ⟨rfl, .rfl', .rfl'⟩
  · rintro X C i v s₅ m E ⟨_, tv, rfl⟩ _ hn hv hE hX
    have k₅ : Ext H s₅.heap := k₄.trans' hE
    obtain ⟨oK, fdK, hoK, hdatK⟩ := ((Fc.keeps kh).keeps k₅).obj
    refine Call_Name (trees := [(false, _), (false, _), (false, _)]) rfl ((EvP.glob (W.gr.keeps k₅).g N.cut rfl : EvP prog w _ _ s₅.heap (.Name "_law_cut" _) (Is (.ref fc))) _ _ s₅ rfl ?_)
    rintro _ s₆ r₆ e₆ rfl
    rw [← e₆] at hn hE k₅ hoK
    refine Calls.callWith_function (o := oK) (fd := fdK) (Calls.evalArgs_plain (Calls.spliced_cons ((EvP.cellVar (P := Is (.ref Dc)) (c := s.heap.objs.size + 1 + 1) (by rfl) (isA _ hE).1 rfl : EvP prog w _ _ _ _ _) _ _ s₆ rfl ?_)))
    rintro _ s₇ r₇ e₇ rfl
    refine Calls.spliced_cons ((EvP.cellVar (P := Is (.int room tr)) (c := s.heap.objs.size + 1 + 1 + 1) (by rfl) (isA _ hE).2.2.1 rfl : EvP prog w _ _ _ _ _) _ _ s₇ e₇ ?_)
    rintro _ s₈ r₈ e₈ rfl
    refine Calls.spliced_cons ((EvP.loc (P := Is (.int (0 + (i : Int) * 1) tv)) hn hv rfl : EvP prog w _ _ _ _ _) _ _ s₈ e₈ ?_)
    rintro _ s₉ r₉ e₉ rfl
    refine Calls.spliced_nil ⟨⟨by rw [e₉]; exact hoK, hdatK⟩, ?_⟩
    refine cut_spec (mg := mg) (mb := mb) (vs := cv.toList) (cs := cs) hh (by show A.depth + 1 < recursionLimit; omega) (by rw [e₉]; exact W.gr.keeps k₅) W.nms.range.1 W.nms.len.1 W.nms.range.2 W.nms.len.2 (by rw [e₉]; exact (Fc.keeps kh).keeps k₅) (by rw [e₉]; simpa using (isA _ hE).2.1) hI hcne (by omega) cbnd hrb ?_
    intro y s₁₀ r₁₀ e₁₀ hy hfr
    have ee : Ext s₅.heap s₁₀.heap := fun b o e => e₁₀ _ _ (by rw [e₉, e₆]; exact e)
    refine ⟨r₆.trans' (r₇.trans' (r₈.trans' (r₉.trans' r₁₀))), ee, fun h' hk => ⟨?_, fun a ea => ?_⟩⟩
    · show CutVal h' y (cutF room (0 + (i : Int) * 1) cs)
      revert hy
      cases hcut : cutF room (0 + (i : Int) * 1) cs with
      | none => exact fun h => h
      | some p =>
        rintro ⟨a, t, u, rfl, ht⟩
        have hfa := hfr a rfl
        rw [e₉, e₆] at hfa
        obtain ⟨oT, eT, r⟩ := ht
        exact ⟨a, t, u, rfl, oT, hk _ _ (fun hm => by obtain ⟨o, e⟩ := hX a hm; rw [hfa] at e; cases e) eT, r⟩
    · have hfa := hfr a ea
      rw [e₉] at hfa
      cases q : s₄.heap.get? a with
      | none => rfl
      | some o => rw [hE _ _ q] at hfa; cases hfa
  rintro Dw s₅ ys vs' hDw hpl hlen' hPv hF R₅ keep₅ S₅
  rw [List.filter_eq_self.mpr (by intro _ _; rfl)] at hF
  have hys : ys.size = M := by have := hF.length; rw [hlen'] at this; simpa using this.symm
  obtain ⟨tups, ht, hw⟩ := ways_ledger (h := s₄.heap) (h' := s₅.heap) (cut := fun i => cutF room i cs) hF
  have hwl' : (vs'.map intOf).filterMap (fun i => cutF room i cs) = waysOf room cs := by
    rw [range_vals (n := M) hlen' (fun j v hv => (hPv j v hv).2) (fun i => i), List.filterMap_map, hM]; rfl
  rw [hwl'] at hw
  have fresh₄ : ∀ a, s₄.heap.get? a = none → a ≠ s.heap.objs.size ∧ H.get? a = none := fun a ha => by
    refine ⟨?_, ?_⟩
    · intro e; obtain ⟨oL, _, _, hL, _⟩ := S₄.fr.ns
      have hL : s₄.heap.get? s.heap.objs.size = some oL := hL
      rw [← e, ha] at hL; cases hL
    · cases e : H.get? a with
      | none => rfl
      | some o => have := S₄.old e; rw [ha] at this; cases this
  obtain ⟨nw, hpl⟩ := hpl
  have S₅ := (S₅.new hpl (fresh₄ _ hDw).1 (fresh₄ _ hDw).2).many (tups := tups) fun p hp => ⟨(ht p hp).1, fresh₄ _ (ht p hp).2⟩
  have ntup : ∀ p ∈ tups, ∀ q o, s₄.heap.get? q = some o → p.1 ≠ q := fun p hp q o e e' => by have := (ht p hp).2; rw [e', e] at this; cases this
  have R₅ := R₄.trans' R₅
  have tupP : ∀ p ∈ tups, p.1 ≠ P := fun p hp => ntup p hp P oP (S₄.get (by simp))
  -- ways, again
  refine wpAny_execs_cons (assignComp (n := ys.size) (P := fun i v => ys[i]? = some v) S₅ notNone (fun v z _ => z = v) (Src.list hh' (EvP.loc S₅.fr.ns (by walk_at "look") rfl) ⟨{ cls := .type "list", data := .seq ys nw }, S₅.get (a := Dw) (by simp), rfl, nw, rfl⟩) ?_ ⟨?_, ?_⟩ ?_)
  · rw [hys, sizeLine_eq]; omega
  · intro C i v s₆ m E _ hn hv _
    refine wpAny_tests_one ((EvT.cmp (b := notNone v) (EvP.loc (P := (· = v)) hn hv rfl) EvP.litNone ?_) _ _ s₆ rfl fun s₇ r₇ e₇ => ⟨rfl, r₇, by rw [e₇]; exact Ext.rfl'⟩)
    intro v' u Q' E' s' hs hv' hu' hQ'
    rw [hv', show u = .none from hu']
    exact isnot_none_gen (hQ' s' .rfl' hs)
  · intro X C i v s₆ m E _ _ hn hv _ _
    refine (EvP.loc (P := (· = v)) hn hv rfl : EvP prog w _ _ _ _ _) _ _ s₆ rfl ?_
    intro y s₇ r₇ e₇ hy
    exact ⟨r₇, by rw [e₇]; exact Ext.rfl', fun _ _ => hy⟩
  rintro Dv s₆ zs vs₂ hDv hpl₂ hlen₂ hPv₂ hF₂ R₆ keep₆ S₆
  have hzs : zs.toList = ys.toList.filter notNone := by
    rw [paired_eq hF₂, same_items (vs := vs₂) (us := ys.toList) (by simpa using hlen₂) (by simpa using hPv₂)]
  rw [← hzs] at hw
  obtain ⟨nv, hpl₂⟩ := hpl₂
  have fresh₅ : Dv ≠ s.heap.objs.size ∧ H.get? Dv = none := by
    refine ⟨?_, ?_⟩
    · intro e; obtain ⟨oL, _, _, hL, _⟩ := S₅.fr.ns
      have hL : s₅.heap.get? s.heap.objs.size = some oL := hL
      rw [← e, hDv] at hL; cases hL
    · cases e : H.get? Dv with
      | none => rfl
      | some o => have := S₅.old e; rw [hDv] at this; cases this
  have DvP : Dv ≠ P := fun e => by
    have := S₅.get (a := P) (o := oP) (by simp)
    rw [← e, hDv] at this; cases this
  have R₆ := R₅.trans' R₆
  have S₆ := (S₆.new hpl₂ fresh₅.1 fresh₅.2).drop (news' := (P, oP) :: (Dv, { cls := .type "list", data := .seq zs nv }) :: (Dc, { cls := .type "list", data := .seq cv nC }) :: (D, { cls := .type "list", data := .seq (List.toArray wv) nW }) :: (s.heap.objs.size + 1 + 1 + 1, o3') :: (s.heap.objs.size + 1 + 1, o2') :: tups) (by
    intro p hp
    simp only [List.mem_cons, List.mem_append, List.not_mem_nil, or_false] at hp ⊢
    rcases hp with h | h | h | h | h | h | h <;> simp [h])
  have neP : ∀ p ∈ (Dv, ({ cls := .type "list", data := .seq zs nv } : Obj)) :: (Dc, { cls := .type "list", data := .seq cv nC }) :: (D, { cls := .type "list", data := .seq (List.toArray wv) nW }) :: (s.heap.objs.size + 1 + 1 + 1, o3') :: (s.heap.objs.size + 1 + 1, o2') :: tups, p.1 ≠ P := by
    intro p hp
    simp only [List.mem_cons] at hp
    rcases hp with rfl | rfl | rfl | rfl | rfl | hp
    · exact DvP
    · exact Ne.symm eP
    · exact hDP
    · exact Ne.symm (hP1 3)
    · exact Ne.symm (hP1 2)
    · exact tupP p hp
  clear S₅ S₄ R₅ R₄ hF₂ hF ht keep₅ keep₆ fresh₅ fresh₄ isA lenW
  -- told, cut
  have mw₆ : upd (upd m' "ways" (.ref Dw)) "ways" (.ref Dv) "words" = some (.ref D) := by walk_at "look"
  have mv₆ : upd (upd m' "ways" (.ref Dw)) "ways" (.ref Dv) "ways" = some (.ref Dv) := by walk_at "look"
  generalize upd (upd m' "ways" (.ref Dw)) "ways" (.ref Dv) = m₆ at *
  have lstOf : ∀ (h : Heap), (∀ p ∈ (Dv, ({ cls := .type "list", data := .seq zs nv } : Obj)) :: (Dc, { cls := .type "list", data := .seq cv nC }) :: (D, { cls := .type "list", data := .seq (List.toArray wv) nW }) :: (s.heap.objs.size + 1 + 1 + 1, o3') :: (s.heap.objs.size + 1 + 1, o2') :: tups, h.get? p.1 = some p.2) →
      h.IsCell (s.heap.objs.size + 1 + 1) (some (.ref Dc)) ∧ h.IsList Dc cv ∧ h.IsCell (s.heap.objs.size + 1 + 1 + 1) (some (.int room tr)) ∧ h.IsList D wv.toArray ∧ h.IsList Dv zs ∧ ∀ p ∈ tups, h.get? p.1 = some p.2 := fun h k =>
    ⟨⟨o2', k (_, o2') (by simp), ho2'⟩, ⟨_, k (Dc, { cls := .type "list", data := .seq cv nC }) (by simp), rfl, nC, rfl⟩, ⟨o3', k (_, o3') (by simp), ho3'⟩,
      ⟨_, k (D, { cls := .type "list", data := .seq (List.toArray wv) nW }) (by simp), rfl, nW, rfl⟩, ⟨_, k (Dv, { cls := .type "list", data := .seq zs nv }) (by simp), rfl, nv, rfl⟩, fun p hp => k p (by simp [hp])⟩
  generalize (Dv, ({ cls := .type "list", data := .seq zs nv } : Obj)) :: (Dc, { cls := .type "list", data := .seq cv nC }) :: (D, { cls := .type "list", data := .seq (List.toArray wv) nW }) :: (s.heap.objs.size + 1 + 1 + 1, o3') :: (s.heap.objs.size + 1 + 1, o2') :: tups = rest at *
  have lst₆ := lstOf _ fun p hp => S₆.get (List.mem_cons_of_mem _ hp)
  have k₆ : Ext H s₆.heap := S₆.fr.keep
  have hb₆ : AllBare s₆.gens := by rw [R₆.gens]; exact hb
  refine wpAny_execs_cons (Assign_Tuple ?_)
  obtain ⟨oB, fdB, hoB, hdatB⟩ := (Fb.keeps kh).obj
  refine Call_Name2 ((EvP.glob (W.gr.keeps k₆).g N.best rfl : EvP prog w _ _ s₆.heap (.Name "_law_best" _) (Is (.ref fb))) _ _ s₆ rfl ?_) rfl
  rintro _ s₇ r₇ e₇ rfl
  refine Calls.callWith_function (o := oB) (fd := fdB) (Calls.evalArgs_plain (Calls.spliced_cons ((EvX.listOf (l := D) (vs := wv) (EvP.bt (W.gr.keeps k₆) N.list.1 N.list.2) (EvP.loc S₆.fr.ns (by walk_at "look") rfl) lst₆.2.2.2.1 (by rw [sizeLine_eq]; omega)) _ _ s₇ e₇ ?_)))
  rintro _ s₈ r₈ E₈ ⟨D2, rfl, hD2⟩
  refine Calls.spliced_cons ((EvP.cellVar (P := Is (.int room tr)) c3 (lstOf _ fun p hp => E₈ _ _ (S₆.get (List.mem_cons_of_mem _ hp))).2.2.1 rfl : EvP prog w _ _ _ _ _) _ _ s₈ rfl ?_)
  rintro _ s₉ r₉ e₉ rfl
  have E₉ : Ext s₆.heap s₉.heap := by rw [e₉]; exact E₈
  have S₉ := S₆.ext E₉
  have R₉ := r₇.trans' (r₈.trans' r₉)
  refine Calls.spliced_nil ⟨⟨S₉.old hoB, hdatB⟩, ?_⟩
  have Wcs : ∀ i, i < ws.length → Wd (ws.map cellsOf) i (i + 1) ≤ room := fun i hi' => by
    rw [hcs, Wd_one (by omega)]; exact hroom _ (List.getElem_mem _)
  have Wps : ∀ i j, i < j → j ≤ ws.length → 0 ≤ Wd (ws.map cellsOf) i j := fun i j h _ => by
    rw [hcs]; exact Wd_pos (fun c hc => by have := hwc c hc; omega) h
  refine best_spec (vs := wv) (ws := ws) hh' (by show A.depth + 1 + 2 < recursionLimit; omega) W S₉.fr.keep (TV _ S₉.fr.keep (S₉.get List.mem_cons_self)) (by rw [R₉.gens]; exact hb₆) (Fb.keeps kh) (by rw [e₉]; exact hD2) hwv O (by omega) hrb Wcs Wps ?_
  intro s₁₀ aT vT Cl cl fv g keep₁₀ hb₁₀ ho₁₀ T₁₀ hCl haT tupT lstC hcl' hclz hfv hdp
  rw [hcs, ← hcl] at hdp
  rw [← hcl] at hcl' hclz
  have fresh₉ : ∀ a, s₉.heap.get? a = none → a ≠ s.heap.objs.size ∧ H.get? a = none := fun a ha => by
    refine ⟨?_, ?_⟩
    · intro e; obtain ⟨oL, _, _, hL, _⟩ := S₉.fr.ns
      have hL : s₉.heap.get? s.heap.objs.size = some oL := hL
      rw [← e, ha] at hL; cases hL
    · cases e : H.get? a with
      | none => rfl
      | some o => have := S₉.old e; rw [ha] at this; cases this
  obtain ⟨oP₂, TV₂, S₁₀⟩ := S₉.after W.oc keep₁₀ T₁₀ neP
  obtain ⟨oCl, eCl, cCl, nCl, dCl⟩ := lstC
  have ClP : Cl ≠ P := fun e => by
    have := S₉.get (a := P) (o := oP) (by simp)
    rw [← e, hCl] at this; cases this
  have S₁₀ := S₁₀.new eCl (fresh₉ _ hCl).1 (fresh₉ _ hCl).2
  have hb6 : ∀ b o, b ≠ P → s₆.heap.get? b = some o → s₁₀.heap.get? b = some o := fun b o h e => keep₁₀ b o h (E₉ _ _ e)
  have ho10 : s₁₀.os = s.os := ho₁₀.trans (R₉.os.trans R₆.os)
  clear E₈ E₉ S₉ R₉ r₇ r₈ r₉ S₆ R₆ keep₁₀ ho₁₀
  refine wpAny_assign_Tuple hh' tupT rfl rfl fun h₁₁ he₁₁ => ?_
  have E₁₁ : Ext s₁₀.heap h₁₁ := fun b o e => he₁₁ b o (Nat.ne_of_lt (Heap.lt_size e)) e
  refine wpAny_assignInOrder_more (wpAny_assign_Name (store_ (s := { s₁₀ with heap := h₁₁ }) (S₁₀.ext E₁₁) fun s₁₂ R₁₂ hs₁₂ S₁₂ => ?_))
  refine wpAny_assignInOrder_more (wpAny_assign_Name (store_ S₁₂ fun s₁₃ R₁₃ hs₁₃ S₁₃ => ?_))
  refine wpAny_assignInOrder_none ?_
  -- mask, i, rows
  refine wpAny_execs_cons (assignP S₁₃ (EvP.lit (i := 0)) ?_)
  rintro v s₁₄ R₁₄ ⟨t0, rfl⟩ S₁₄
  obtain ⟨vi0, hvi0, hi0⟩ := hcl' 0 (Nat.zero_le _)
  have lst : ∀ {m h}, Sta H (envOfC lawD.1.name lawD.1.scope s.heap.objs.size f code).locals m ((Cl, oCl) :: (P, oP₂) :: rest) h → h.IsList Cl cl.toArray ∧ h.IsCell (s.heap.objs.size + 1 + 1) (some (.ref Dc)) ∧ h.IsList Dc cv ∧ h.IsCell (s.heap.objs.size + 1 + 1 + 1) (some (.int room tr)) ∧ h.IsList D wv.toArray ∧ h.IsList Dv zs ∧ ∀ p ∈ tups, h.get? p.1 = some p.2 :=
    fun S => ⟨⟨oCl, S.get List.mem_cons_self, cCl, nCl, dCl⟩, lstOf _ fun p hp => S.get (List.mem_cons_of_mem _ (List.mem_cons_of_mem _ hp))⟩
  have hn0 : 0 < ws.length := by omega
  obtain ⟨b0, j0, bj0, hf0, hg0, hj0, hjn0, _⟩ := (hdp.at' 0 (Nat.zero_le _) (by omega)).val
  refine wpAny_execs_cons (assignP S₁₄ (EvP.item (l := Cl) (items := cl.toArray) (k := 0) (P := IsI j0) (EvP.loc S₁₄.fr.ns (by walk_at "look") rfl) EvP.lit (lst S₁₄).1 (by omega) (by omega) (by simpa using hvi0) (by rw [← hg0]; exact hi0)) ?_)
  rintro v s₁₅ R₁₅ ⟨ti, rfl⟩ S₁₅
  refine wpAny_execs_cons (assignP S₁₅ (EvP.lit (i := 1)) ?_)
  rintro v s₁₆ R₁₆ ⟨tw, rfl⟩ S₁₆
  have hb16 : AllBare s₁₆.gens := by rw [R₁₆.gens, R₁₅.gens, R₁₄.gens, R₁₃.gens, R₁₂.gens]; exact hb₁₀
  have ho16 : s₁₆.os = s.os := R₁₆.os.trans (R₁₅.os.trans (R₁₄.os.trans (R₁₃.os.trans (R₁₂.os.trans ho10))))
  -- the path
  refine wpAny_execs_cons (while_ (fun k s' => ∃ i mask rows t u z m, k = cs.length - i ∧ 0 < i ∧ i ≤ cs.length ∧ Path cs.length g i mask rows ∧ m "words" = some (.ref D) ∧ m "ways" = some (.ref Dv) ∧ m "cut" = some (.ref Cl) ∧ m "told" = some vT ∧ m "i" = some (.int (i : Nat) t) ∧ m "mask" = some (.int (mask : Nat) u) ∧ m "rows" = some (.int (rows : Nat) z) ∧
      AllBare s'.gens ∧ s'.os = s.os ∧ Sta H (envOfC lawD.1.name lawD.1.scope s.heap.objs.size f code).locals m ((Cl, oCl) :: (P, oP₂) :: rest) s'.heap) (cs.length - j0)
    ⟨j0, 0, 1, ti, t0, tw, _, rfl, hj0, hjn0, .start hg0, by walk_at "look", by walk_at "look", by walk_at "look", by walk_at "look", by walk_at "look", by walk_at "look", by walk_at "look", hb16, ho16, S₁₆⟩ ?_)
  clear S₁₆ S₁₅ S₁₄ S₁₃ S₁₂ S₁₀ R₁₂ R₁₃ R₁₄ R₁₅ R₁₆ hb16 ho16
  rintro k s₁₇ E' ⟨i, mask, rows, t, u, z, m, rfl, hi0, hin, hpath, mw, mv, mc, mt, mi, mm, mr, hb₁₇, ho₁₇, S₁₇⟩
  have k₁₇ : Ext H s₁₇.heap := S₁₇.fr.keep
  have lenW : ∀ p1 p2 p3, EvP prog w (A.deeper (envOfC lawD.1.name lawD.1.scope s.heap.objs.size f code)) (envOfC lawD.1.name lawD.1.scope s.heap.objs.size f code) s₁₇.heap (.Call (.Name "len" p1) [.Name "words" p2] [] p3) (IsI (cs.length : Nat)) :=
    fun p1 p2 p3 => (EvP.len (EvP.bt (W.gr.keeps k₁₇) W.nms.len.1 W.nms.len.2) (EvP.loc S₁₇.fr.ns mw rfl) (lst S₁₇).2.2.2.2.1 (by rw [List.size_toArray]; omega)).mono fun v hv => by rw [List.size_toArray, hwl, ← hcl] at hv; exact hv
  refine (EvT.lt (a := i) (b := (cs.length : Nat)) (EvP.loc S₁₇.fr.ns mi ⟨_, rfl⟩) (lenW _ _ _)) _ _ s₁₇ rfl fun s₁₈ R₁₈ e₁₈ => ?_
  rw [← e₁₈] at S₁₇
  have hb₁₈ : AllBare s₁₈.gens := by rw [R₁₈.gens]; exact hb₁₇
  have ho₁₈ := R₁₈.os.trans ho₁₇
  by_cases hlt : (i : Int) < (cs.length : Nat)
  · rw [decide_eq_true hlt, if_pos rfl]
    have hil : i < cs.length := by omega
    obtain ⟨b1, j1, bj1, _, hg1, hj1, hjn1, _⟩ := (hdp.at' i (Nat.zero_le _) (by omega)).val
    obtain ⟨vi1, hvi1, hi1⟩ := hcl' i (by omega)
    have e1 : ((i : Int) - 1).toNat = i - 1 := by omega
    refine wpAny_execs_cons (augAdd S₁₇ mm ((EvP.pow (EvP.lit (i := 2)) (EvP.sub (EvP.loc S₁₇.fr.ns mi ⟨_, rfl⟩) (EvP.lit (i := 1))) (by omega) (by omega) (by decide)).mono (P' := IsI ((2 ^ (i - 1) : Nat) : Int)) fun v hv => by rw [e1] at hv; push_cast; exact hv) ?_)
    intro ta sa Ra Sa
    refine wpAny_execs_cons (augAdd Sa (by walk_at "look") (EvP.lit (i := 1)) ?_)
    intro tb sb Rb Sb
    refine wpAny_execs_cons (assignP Sb (EvP.item (l := Cl) (items := cl.toArray) (k := i) (P := IsI j1) (EvP.loc Sb.fr.ns (by walk_at "look") rfl) (EvP.loc Sb.fr.ns (by walk_at "look") ⟨_, rfl⟩) (lst Sb).1 (by omega) (by omega) (by simpa using hvi1) (by rw [← hg1]; exact hi1)) ?_)
    rintro v sc Rc ⟨tc, rfl⟩ Sc
    refine wpAny_execs_nil ?_
    exact ⟨cs.length - j1, by omega, j1, mask + 2 ^ (i - 1), rows + 1, tc, ta, tb, _, rfl, by omega, by omega, hpath.step hil hi0 hg1, by walk_at "look", by walk_at "look", by walk_at "look", by walk_at "look", by walk_at "look",
      by push_cast; walk_at "look", by push_cast; walk_at "look", by rw [Rc.gens, Rb.gens, Ra.gens]; exact hb₁₈, Rc.os.trans (Rb.os.trans (Ra.os.trans ho₁₈)), Sc⟩
  rw [decide_eq_false hlt, if_neg Bool.false_ne_true]
  have : i = cs.length := by omega
  subst this
  have oT : IsI b0 vT := by rw [hf0] at hfv; exact hfv
  have hc1 : ∀ c ∈ cs, 1 ≤ c := fun c hc => (hwc c hc).1
  have hzsz : zs.size ≤ sizeLine := by
    have h1 : zs.size = zs.toList.length := by simp
    have h2 := List.length_filter_le notNone ys.toList
    rw [h1, hzs, sizeLine_eq]
    have h3 : ys.toList.length = M := by simp [hys]
    omega
  have S₁₈ := S₁₇.drop (news' := (P, oP₂) :: rest) fun p hp => List.mem_cons_of_mem _ hp
  exact law_tail hh' hd (hu _) W N (Ff.keeps kh) (Fc.keeps kh) TV₂ S₁₈ neP lstOf hb₁₈ mw mv mt mm mr hwv O hcs hI hcne (by omega) hwc hroom hrb hw hzsz oT (best_least hc1 hroom hcne hdp hf0) (path_way hc1 hcne hdp hf0 hpath)
    fun s' k' hb' ho' ht' => hQ s' (fun b o hb e => k' _ _ ((hole₀ b hb).trans e)) hb' (ho'.trans ho₁₈) ht'
end Mine
namespace Mine
section
variable {K : Frag} {h : Heap} (X : K.In h)
include X
theorem kf (a : Addr) (o : Obj) (e : K.lookup a = some o) (ha : a ≠ 46) : (hole h 46).get? a = some o := (hole_other ha).trans (X a o e)
theorem kf_code (c : Addr) (o : Obj) (vs : Array Value) (q : Str) (t : Tok) (e : K.lookup c = some o) (hc : c ≠ 46) (hd : o.data = .fields vs) (h1 : vs[1]? = some (.str q t)) : (hole h 46).CodeRec (.ref c) q :=
  ⟨c, o, vs, t, rfl, kf X c o e hc, hd, h1⟩
variable {p : Program} {loose : List Str} {mean : ExcName → Option Value} {mg mb : Str → Option Value} (T : Top p loose mean mg mb h)
include T
/-- a built-in name -/
theorem kb {x : Str} {v : Value} (h1 : nsIn K mainGlobals x = some none) (h2 : bootBuiltins x = some v) (h3 : x ≠ "__name__") : mg x = none ∧ mb x = some v := ⟨mg_none_of X T.g h1, (T.builtins x h3).trans h2⟩
end
theorem signs_eq : (signs.map fun k => (⟨#[k]⟩ : Str)) = [Str.ofString "a", Str.ofString "Q", Str.ofString "é", Str.ofString "ｱ", Str.ofString "漢", Str.ofString "가"] := by decide +kernel
theorem old_k {h h' : Heap} {c P : Addr} (t : h.TableAt c P #[]) (k : ∀ b o, b ≠ P → h.get? b = some o → h'.get? b = some o) (T : Tab c P h') : OldK h h' := by
  obtain ⟨ps, _, t'⟩ := T
  refine ⟨fun b o e => ?_, fun b o e => ?_⟩
  · by_cases hb : b = P
    · subst hb
      have e₀ : o = { cls := .none, data := .fields #[] } := Option.some.inj (e.symm.trans t.2)
      subst e₀
      exact .inr (.inl ⟨t.isCodeTable, rfl, #[], ps, rfl, by rw [t'.2]; simp⟩)
    · exact .inl (k b o hb e)
  · by_cases hb : b = P
    · exact ⟨_, hb ▸ t'.2⟩
    · exact ⟨o, k b o hb e⟩
theorem wb_of {mg mb : Str → Option Value} {c P f bm : Addr} {ob : Obj} {h : Heap} (t : h.TableAt c P #[]) (g : h.Ns mainGlobals mg) (b : h.Ns builtinsNs mb) (nl : h.NoLimit) (M : BMod h mainGlobals mg bm ob) (h1 : mainGlobals ≠ P) (h2 : builtinsNs ≠ P) (h3 : cStatics ≠ P) (h4 : c ≠ P)
    (N : Nms mg mb) (D : DispAt (hole h P) f c P) (nm : mg "_display_width" = some (.ref f)) : Wb mg mb c P f (hole h P) where
  hole := hole_self _ _
  oc := by
    obtain ⟨⟨o, vs, e, _⟩, _⟩ := t
    exact ⟨o, (hole_other h4).trans e⟩
  gr := ⟨g.at' fun o e => (hole_other h1).trans e, b.at' fun o e => (hole_other h2).trans e, nl.extBut (fun b o hb e => (hole_other hb).trans e) h3⟩
  nms := N
  bm := ⟨bm, ob, M.extBut t fun b o hb e => (hole_other hb).trans e⟩
  disp := D
  name := nm
theorem finish {prog : Program} {w : World} {s₁ : Shared} {mg mb : Str → Option Value} {c P fD : Addr} {fa l fb ff fc fk aS : Addr} {sv vs : List Value} {ns : List Int}
    (t : s₁.heap.TableAt c P #[]) (T : Tab c P s₁.heap) (W : Wb mg mb c P fD (hole s₁.heap P)) (N : NmsL mg mb fb ff fc fk aS) (h1 : IsTup (hole s₁.heap P) aS sv.toArray) (h2 : StrsAre sv (signs.map fun k => (⟨#[k]⟩ : Str)))
    (Fb : FnAt bestD.1 (hole s₁.heap P) fb) (Ff : FnAt filledD.1 (hole s₁.heap P) ff) (Fc : FnAt cutD.1 (hole s₁.heap P) fc) (Fk : FnAt cellsD.1 (hole s₁.heap P) fk)
    (hF : FnAt lawD.1 s₁.heap fa) (hg : s₁.gens = #[]) (hl : s₁.heap.IsList l vs.toArray) (hi : IntsAre vs ns) (hn : ns.length ≤ 63) :
    codeAny (model prog w) callerA (.call (.ref fa) ⟨[.ref l], []⟩) (fun r s' => r = .ok (.ret (.bool true)) ∧ OldK s₁.heap s'.heap ∧ s'.os = s₁.os ∧ AllBare s'.gens) s₁ := by
  refine codeAny_mono (law_part1 (c := c) (P := P) (fD := fD) (Q := fun v s' => v = .bool true ∧ OldK s₁.heap s'.heap ∧ s'.os = s₁.os ∧ AllBare s'.gens) rfl (by decide) (fun env => Nat.le_of_ble_eq_true rfl) W N (hole_ext _ _) T (.of_eq hg) h1 h2 Fb Ff Fc Fk hF hl hi hn ?_) ?_
  · intro s' k b o T'
    exact ⟨rfl, old_k t k T', o, b⟩
  · rintro r s' h
    match r, h with
    | .ok (.ret v), ⟨hv, h⟩ => exact ⟨by rw [hv], h⟩
end Mine
theorem PySem.Challenge.cw_gq5014_01_holds : PySem.Challenge.rw_gq5014_01.Holds := by
  w_on; o_law
  z_head
  case hw => w_witness2
  w_strict (
    intro w s₀ s₁ mg mb G y fa o pm cd doc dV kV ho hd hcd hD hmg hg args vals as L hpre hlay hrd hwl hlo
    z_open y L KX ZH ZN ZT
    refine Ground.open G ?_
    intro T B D TE TW
    obtain ⟨_, _, M⟩ := bmod_of_top T
    have he := Dflts.none hD rfl
    subst he
    have he := Dflts.noKw hD
    subst he
    have hF : Mine.FnAt Mine.lawD.1 s₁.heap fa := ⟨o, pm, cd, doc, ho, fd_plain hd, hcd⟩
    clear hd hcd hD ho hmg G B D TE TW ZH ZN ZT
    wrow_args hpre hlay hrd hwl hlo
    all_goals (first | refine callC_kw (enter_call ?_) | refine enter_call ?_ | refine callC_kw (enter_callW ?_) | refine enter_callW ?_ | w_how)
    rename_i vs _ hl _ _ _ hi _ hn _
    have e50 := KX 50 _ rfl
    have e46 := KX 46 _ rfl
    have hT : s₁.heap.TableAt 50 46 #[] := ⟨⟨_, _, e50, rfl, rfl, rfl⟩, e46⟩
    have hTab : Mine.Tab 50 46 s₁.heap := ⟨#[], ⟨_, _, _, _, _, _, _, _, _, _, e50, rfl, rfl, rfl, rfl, rfl, rfl, e46, rfl, trivial, by decide⟩, hT⟩
    have N1 : Mine.Nms mg mb := ⟨Mine.kb KX T (by kernel_rfl) (by kernel_rfl) (by decide), Mine.kb KX T (by kernel_rfl) (by kernel_rfl) (by decide), Mine.kb KX T (by kernel_rfl) (by kernel_rfl) (by decide), mg_of KX T.g (by kernel_rfl), ⟨_, mg_of KX T.g rfl⟩⟩
    have N2 : Mine.NmsL mg mb 71 78 64 57 52 := ⟨Mine.kb KX T (by kernel_rfl) (by kernel_rfl) (by decide), Mine.kb KX T (by kernel_rfl) (by kernel_rfl) (by decide), Mine.kb KX T (by kernel_rfl) (by kernel_rfl) (by decide), Mine.kb KX T (by kernel_rfl) (by kernel_rfl) (by decide),
      mg_of KX T.g (by kernel_rfl), mg_of KX T.g (by kernel_rfl), mg_of KX T.g (by kernel_rfl), mg_of KX T.g (by kernel_rfl), mg_of KX T.g (by kernel_rfl)⟩
    have hDisp : Mine.DispAt (Mine.hole s₁.heap 46) 51 50 46 := ⟨⟨_, _, _, 44, _, _, Mine.kf KX 51 _ rfl (by decide), rfl, Mine.kf_code KX 50 _ _ _ _ rfl (by decide) rfl rfl, Mine.kf KX 44 _ rfl (by decide), rfl⟩⟩
    have Fk : Mine.FnAt Mine.cellsD.1 (Mine.hole s₁.heap 46) 57 := ⟨_, _, _, _, Mine.kf KX 57 _ rfl (by decide), rfl, Mine.kf_code KX _ _ _ _ _ rfl (by decide) rfl rfl⟩
    have Fc : Mine.FnAt Mine.cutD.1 (Mine.hole s₁.heap 46) 64 := ⟨_, _, _, _, Mine.kf KX 64 _ rfl (by decide), rfl, Mine.kf_code KX _ _ _ _ _ rfl (by decide) rfl rfl⟩
    have Fb : Mine.FnAt Mine.bestD.1 (Mine.hole s₁.heap 46) 71 := ⟨_, _, _, _, Mine.kf KX 71 _ rfl (by decide), rfl, Mine.kf_code KX _ _ _ _ _ rfl (by decide) rfl rfl⟩
    have Ff : Mine.FnAt Mine.filledD.1 (Mine.hole s₁.heap 46) 78 := ⟨_, _, _, _, Mine.kf KX 78 _ rfl (by decide), rfl, Mine.kf_code KX _ _ _ _ _ rfl (by decide) rfl rfl⟩
    obtain ⟨sv, hs1, hs2⟩ : ∃ sv : List Value, IsTup (Mine.hole s₁.heap 46) 52 sv.toArray ∧ StrsAre sv (Mine.signs.map fun k => (⟨#[k]⟩ : PySem.Str)) := by
      rw [Mine.signs_eq]
      exact ⟨_, ⟨_, Mine.kf KX 52 _ rfl (by decide), rfl, _, rfl⟩, .cons _ _ (.cons _ _ (.cons _ _ (.cons _ _ (.cons _ _ (.cons _ _ .nil)))))⟩
    have W := Mine.wb_of hT T.g T.b T.nolimit M (by decide) (by decide) (by decide) (by decide) N1 hDisp (mg_of KX T.g (by kernel_rfl))
    refine codeAny_mono (Mine.finish hT hTab W N2 hs1 hs2 Fb Ff Fc Fk hF hg hl hi (by omega)) ?_
    rintro r s' ⟨rfl, k, hos, hb⟩
    refine ⟨.inl ⟨.bool true, .bool true, [], rfl, raisesW_false (by wrow_none_raised), .bool true, ?_, unshared_nil⟩, k, hos, hb⟩
    exact postW_of (by wrow_shape) (by wtm_val) (by str_meet; first | done | w_fin))
